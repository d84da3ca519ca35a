/-
  Plain law of the stable sort's rounds, without the program: rows of one size, each in order, are merged two by two.
-/
import Derived.Test.YtfkhfkbkjiekkaaMerge
namespace Go.Proofs.Ytfkhfkbkjiekkaa
open Go.Sort
section
variable {α : Type} [Inhabited α] {lt T : α → α → Bool}

theorem insInner_perm (f : α → α → Bool) (a b : Nat) : ∀ (j : Nat) (d : Array α), a ≤ j → j < b → b ≤ d.size → PermIn a b d (insInner f a j d)
  | 0, d, _, _, _ => permIn_refl _ _ _
  | j + 1, d, h1, h2, h3 => by
    unfold insInner
    split
    · rename_i hc
      simp only [Bool.and_eq_true, decide_eq_true_eq] at hc
      exact permIn_trans _ _ _ _ _ (swp_permIn d a b (j + 1) j h1 h2 (by omega) (by omega) h3) (insInner_perm f a b j _ (by omega) (by omega) (by rw [size_swp]; exact h3))
    · exact permIn_refl _ _ _

theorem insInner_same (a : Nat) : ∀ (j : Nat) (d : Array α), a ≤ j → j < d.size → (∀ k, a ≤ k → k < j → lt d[j]! d[k]! = T d[j]! d[k]!) → insInner lt a j d = insInner T a j d
  | 0, d, _, _, _ => by unfold insInner; rfl
  | j + 1, d, h1, h2, h => by
    unfold insInner
    by_cases hj : j + 1 > a
    · rw [h j (by omega) (by omega)]
      split
      · refine insInner_same a j _ (by omega) (by rw [size_swp]; omega) fun k k1 k2 => ?_
        rw [swp_right _ _ _ (by omega), swp_other _ _ _ _ (by omega) (by omega)]
        exact h k k1 (by omega)
      · rfl
    · have : decide (j + 1 > a) = false := decide_eq_false hj
      simp only [this, Bool.false_and, Bool.false_eq_true, if_false]

theorem insOuter_same (a b : Nat) : ∀ (n i : Nat) (d : Array α), b - i = n → a ≤ i → i ≤ b → b ≤ d.size → (∀ p q, a ≤ p → p < q → i ≤ q → q < b → lt d[q]! d[p]! = T d[q]! d[p]!) → insOuter lt a b i d = insOuter T a b i d
  | 0, i, d, hn, _, _, _, _ => by rw [insOuter, if_neg (by omega), insOuter, if_neg (by omega)]
  | n + 1, i, d, hn, h1, h2, h3, h => by
    rw [insOuter, if_pos (by omega)]
    conv => rhs; rw [insOuter, if_pos (by omega)]
    rw [insInner_same a i d h1 (by omega) (fun k k1 k2 => h k i k1 k2 (Nat.le_refl _) (by omega))]
    have hp := insInner_perm T a (i + 1) i d h1 (by omega) (by omega)
    refine insOuter_same a b n (i + 1) _ (by omega) (by omega) (by omega) (by rw [hp.1]; exact h3) fun p q k1 k2 k3 k4 => ?_
    rw [hp.2.1 q (by omega)]
    by_cases hpi : p < i + 1
    · exact permIn_all d _ a (i + 1) (fun v => lt d[q]! v = T d[q]! v) (by omega) hp (fun k k5 k6 => h k q k5 (by omega) (by omega) k4) p k1 hpi
    · rw [hp.2.1 p (by omega)]; exact h p q k1 k2 (by omega) k4

theorem insertionSort_same (a b : Nat) (d : Array α) (hab : a ≤ b) (hb : b ≤ d.size) (h : ∀ p q, a ≤ p → p < q → q < b → lt d[q]! d[p]! = T d[q]! d[p]!) : insertionSort lt d a b = insertionSort T d a b := by
  unfold insertionSort
  by_cases e : a = b
  · subst e; rw [insOuter, if_neg (by omega), insOuter, if_neg (by omega)]
  · exact insOuter_same a b (b - (a + 1)) (a + 1) d rfl (by omega) (by omega) hb fun p q k1 k2 _ k4 => h p q k1 k2 k4

/-- across a row that is permuted within itself -/
theorem perm_across {x y : Nat} {d e : Array α} (P : α → α → Prop) (p : PermIn x y d e) (hy : y ≤ d.size) (i j : Nat)
    (h : ∀ i' j', (i' = i ∧ (i < x ∨ y ≤ i) ∨ (x ≤ i ∧ i < y ∧ x ≤ i' ∧ i' < y)) → (j' = j ∧ (j < x ∨ y ≤ j) ∨ (x ≤ j ∧ j < y ∧ x ≤ j' ∧ j' < y)) → P d[i']! d[j']!) : P e[i]! e[j]! := by
  by_cases ci : x ≤ i ∧ i < y
  · by_cases cj : x ≤ j ∧ j < y
    · refine permIn_all d e x y (fun v => P v e[j]!) hy p (fun i' a1 a2 => ?_) i ci.1 ci.2
      exact permIn_all d e x y (fun v => P d[i']! v) hy p (fun j' b1 b2 => h i' j' (Or.inr ⟨ci.1, ci.2, a1, a2⟩) (Or.inr ⟨cj.1, cj.2, b1, b2⟩)) j cj.1 cj.2
    · rw [p.2.1 j (by omega)]
      exact permIn_all d e x y (fun v => P v d[j]!) hy p (fun i' a1 a2 => h i' j (Or.inr ⟨ci.1, ci.2, a1, a2⟩) (Or.inl ⟨rfl, by omega⟩)) i ci.1 ci.2
  · rw [p.2.1 i (by omega)]
    by_cases cj : x ≤ j ∧ j < y
    · exact permIn_all d e x y (fun v => P d[i]! v) hy p (fun j' b1 b2 => h i j' (Or.inl ⟨rfl, by omega⟩) (Or.inr ⟨cj.1, cj.2, b1, b2⟩)) j cj.1 cj.2
    · rw [p.2.1 j (by omega)]
      exact h i j (Or.inl ⟨rfl, by omega⟩) (Or.inl ⟨rfl, by omega⟩)

/-- rows of bs, each in order; across them the one order answers as the other -/
structure Grp (lt T : α → α → Bool) (bs n : Nat) (d dk : Array α) : Prop where
  perm : PermIn 0 n d dk
  apart : ∀ i j, i < j → j < n → i / bs ≠ j / bs → lt dk[j]! dk[i]! = T dk[j]! dk[i]!
  within : ∀ i j, i < j → j < n → i / bs = j / bs → T dk[j]! dk[i]! = false

/-- the same, where only the rows below a are in order as yet -/
structure Pre1 (lt T : α → α → Bool) (n a : Nat) (d dk : Array α) : Prop where
  perm : PermIn 0 n d dk
  apart : ∀ i j, i < j → j < n → (i / 20 ≠ j / 20 ∨ a ≤ i) → lt dk[j]! dk[i]! = T dk[j]! dk[i]!
  within : ∀ i j, i < j → j < a → i / 20 = j / 20 → T dk[j]! dk[i]! = false

theorem Pre1.start (n : Nat) (d : Array α) (h : ∀ i j, i < j → j < n → lt d[j]! d[i]! = T d[j]! d[i]!) : Pre1 lt T n 0 d d :=
  ⟨permIn_refl _ _ _, fun i j h1 h2 _ => h i j h1 h2, fun i j _ h2 => by omega⟩

theorem Pre1.step (hT : SWO T) {n a b : Nat} {d dk : Array α} (h : Pre1 lt T n a d dk) (hn : n ≤ d.size) (t : Nat) (ha : a = 20 * t) (hab : a ≤ b) (hb : b ≤ n) (hb2 : b = a + 20 ∨ (b = n ∧ n ≤ a + 20)) :
    Pre1 lt T n b d (insertionSort lt dk a b) := by
  have hs : b ≤ dk.size := by rw [h.perm.1]; omega
  have e := insertionSort_same a b dk hab hs (lt := lt) (T := T) fun p q k1 k2 k3 => h.apart p q k2 (by omega) (Or.inr k1)
  obtain ⟨hp, ho⟩ := insertionSort_holds hT dk a b hab hs
  rw [e]
  refine ⟨permIn_trans _ _ _ _ _ h.perm (permIn_mono _ _ a b 0 n (Nat.zero_le _) hb (by rw [h.perm.1]; exact hn) hp), fun i j h1 h2 h3 => ?_, fun i j h1 h2 h3 => ?_⟩
  · refine perm_across (fun u v => lt v u = T v u) hp hs i j fun i' j' hi hj => ?_
    exact h.apart i' j' (by omega) (by omega) (by omega)
  · by_cases c : j < a
    · rw [hp.2.1 i (by omega), hp.2.1 j (by omega)]; exact h.within i j h1 c h3
    · exact ho i j (by omega) h1 h2

theorem Pre1.done {n a : Nat} {d dk : Array α} (h : Pre1 lt T n a d dk) (ha : a = n) : Grp lt T 20 n d dk :=
  ⟨h.perm, fun i j h1 h2 h3 => h.apart i j h1 h2 (Or.inl h3), fun i j h1 h2 h3 => h.within i j h1 (by omega) h3⟩

/-- the same in a round: the first t pairs of rows are merged -/
structure Pre2 (lt T : α → α → Bool) (bs n t : Nat) (d dk : Array α) : Prop where
  perm : PermIn 0 n d dk
  apart : ∀ i j, i < j → j < n → i / bs ≠ j / bs → (i / bs / 2 ≠ j / bs / 2 ∨ t ≤ i / bs / 2) → lt dk[j]! dk[i]! = T dk[j]! dk[i]!
  low : ∀ i j, i < j → j < n → i / bs = j / bs → t ≤ i / bs / 2 → T dk[j]! dk[i]! = false
  high : ∀ i j, i < j → j < n → i / bs / 2 = j / bs / 2 → i / bs / 2 < t → T dk[j]! dk[i]! = false

theorem Grp.start {bs n : Nat} {d dk : Array α} (h : Grp lt T bs n d dk) : Pre2 lt T bs n 0 d dk :=
  ⟨h.perm, fun i j h1 h2 h3 _ => h.apart i j h1 h2 h3, fun i j h1 h2 h3 _ => h.within i j h1 h2 h3, fun _ _ _ _ _ h => absurd h (Nat.not_lt_zero _)⟩

theorem div_lt_at {bs i u : Nat} (h0 : 0 < bs) : i / bs < u ↔ i < u * bs := Nat.div_lt_iff_lt_mul h0

theorem Pre2.half {bs n t a b : Nat} {d dk : Array α} (h : Pre2 lt T bs n t d dk) (h0 : 0 < bs) (ha : a = 2 * t * bs) (hm : a + bs < b) (hb : b ≤ n) (hb2 : b ≤ a + 2 * bs) : Half lt T a (a + bs) b dk := by
  have c : ∀ i, i / bs < 2 * t ↔ i < a := fun i => by rw [div_lt_at h0, ha]
  have c1 : ∀ i, i / bs < 2 * t + 1 ↔ i < a + bs := fun i => by rw [div_lt_at h0, ha, Nat.add_mul]; omega
  have c2 : ∀ i, i / bs < 2 * t + 2 ↔ i < a + 2 * bs := fun i => by rw [div_lt_at h0, ha, Nat.add_mul]
  refine ⟨fun i j h1 h2 h3 => ?_, fun i j h1 h2 h3 => ?_, fun i j h1 h2 h3 h4 => ?_⟩
  · have k1 := c i; have k2 := c1 j; have k3 := c1 i; have k4 := c j
    exact h.low i j h2 (by omega) (by omega) (by omega)
  · have k1 := c1 i; have k2 := c2 j; have k3 := c2 i; have k4 := c1 j
    exact h.low i j h2 (by omega) (by omega) (by omega)
  · have k1 := c i; have k2 := c1 j; have k3 := c1 i; have k4 := c2 j
    exact h.apart i j (by omega) (by omega) (by omega) (by omega)

theorem Pre2.step {bs n t a b : Nat} {d dk e : Array α} (h : Pre2 lt T bs n t d dk) (h0 : 0 < bs) (hn : n ≤ d.size) (ha : a = 2 * t * bs) (hb : b ≤ n) (hb2 : b = a + 2 * bs ∨ (b = n ∧ n ≤ a + 2 * bs)) (p : PermIn a b dk e) (o : SortedIn T a b e) (hab : a ≤ b) :
    Pre2 lt T bs n (t + 1) d e := by
  have c : ∀ i, i / bs < 2 * t ↔ i < a := fun i => by rw [div_lt_at h0, ha]
  have c2 : ∀ i, i / bs < 2 * t + 2 ↔ i < a + 2 * bs := fun i => by rw [div_lt_at h0, ha, Nat.add_mul]
  have hs : n ≤ dk.size := by rw [h.perm.1]; exact hn
  refine ⟨permIn_trans _ _ _ _ _ h.perm (permIn_mono _ _ a b 0 n (Nat.zero_le _) hb hs p), fun i j h1 h2 h3 h4 => ?_, fun i j h1 h2 h3 h4 => ?_, fun i j h1 h2 h3 h4 => ?_⟩
  · refine perm_across (fun u v => lt v u = T v u) p (by omega) i j fun i' j' hi hj => ?_
    have k1 := c i; have k2 := c j; have k3 := c2 i; have k4 := c2 j
    have k5 := c i'; have k6 := c j'; have k7 := c2 i'; have k8 := c2 j'
    rcases hi with ⟨rfl, hi⟩ | hi <;> rcases hj with ⟨rfl, hj⟩ | hj <;> exact h.apart _ _ (by omega) (by omega) (by omega) (by omega)
  · have k1 := c i; have k2 := c j; have k3 := c2 i; have k4 := c2 j
    rw [p.2.1 i (by omega), p.2.1 j (by omega)]
    exact h.low i j h1 h2 h3 (by omega)
  · have k1 := c i; have k2 := c j; have k3 := c2 i; have k4 := c2 j
    by_cases cc : i < a
    · rw [p.2.1 i (by omega), p.2.1 j (by omega)]
      exact h.high i j h1 h2 h3 (by omega)
    · exact o i j (by omega) h1 (by omega)

theorem Pre2.done {bs n t a : Nat} {d dk : Array α} (h : Pre2 lt T bs n t d dk) (h0 : 0 < bs) (ha : a = 2 * t * bs) (hn : n ≤ a + bs) : Grp lt T (bs * 2) n d dk := by
  have c : ∀ i, i / bs < 2 * t ↔ i < a := fun i => by rw [div_lt_at h0, ha]
  have c1 : ∀ i, i / bs < 2 * t + 1 ↔ i < a + bs := fun i => by rw [div_lt_at h0, ha, Nat.add_mul]; omega
  refine ⟨h.perm, fun i j h1 h2 h3 => ?_, fun i j h1 h2 h3 => ?_⟩
  · rw [← Nat.div_div_eq_div_mul, ← Nat.div_div_eq_div_mul] at h3
    exact h.apart i j h1 h2 (by omega) (Or.inl h3)
  · rw [← Nat.div_div_eq_div_mul, ← Nat.div_div_eq_div_mul] at h3
    have k1 := c i; have k2 := c j; have k3 := c1 i; have k4 := c1 j
    by_cases cc : i < a
    · exact h.high i j h1 h2 h3 (by omega)
    · exact h.low i j h1 h2 (by omega) (by omega)

theorem Pre2.done2 {bs n t a : Nat} {d dk : Array α} (h : Pre2 lt T bs n (t + 1) d dk) (h0 : 0 < bs) (ha : a = 2 * t * bs) (hn : n ≤ a + 2 * bs) : Grp lt T (bs * 2) n d dk :=
  h.done (a := a + 2 * bs) h0 (by rw [ha, Nat.mul_add, Nat.add_mul]) (by omega)

theorem Grp.final {bs n : Nat} {d dk : Array α} (h : Grp lt T bs n d dk) (hn : n ≤ bs) : PermIn 0 n d dk ∧ SortedIn T 0 n dk :=
  ⟨h.perm, fun i j _ h2 h3 => h.within i j h2 h3 (by rw [Nat.div_eq_of_lt (by omega), Nat.div_eq_of_lt (by omega)])⟩
end

end Go.Proofs.Ytfkhfkbkjiekkaa
