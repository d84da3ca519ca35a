/-
  Plain law of the pattern-defeating quicksort, without the program: what each round keeps.
-/
import Derived.Test.YtfkhfkbkjiekkaaParts
import Derived.Test.YtfkhfkbkjiekkaaBlocks
import Derived.Sort.LotA
namespace Go.Proofs.Ytfkhfkbkjiekkaa
open Go.Sort
section
variable {α : Type} [Inhabited α] {lt : α → α → Bool}

/-- of [a, b) all pairs are in order but those that lie within [x, y); nothing in there is below its left neighbour -/
structure PQ (lt : α → α → Bool) (a b x y : Nat) (d dk : Array α) : Prop where
  perm : PermIn a b d dk
  ax : a ≤ x
  xy : x ≤ y
  yb : y ≤ b
  rest : ∀ i j, a ≤ i → i < j → j < b → ¬ (x ≤ i ∧ j < y) → lt dk[j]! dk[i]! = false
  below : x = 0 ∨ ∀ i, x ≤ i → i < y → lt dk[i]! dk[x - 1]! = false

theorem PQ.start {a b : Nat} {d : Array α} (hab : a ≤ b) (h : Sort.Below lt a b d) : PQ lt a b a b d d :=
  ⟨permIn_refl _ _ _, Nat.le_refl _, hab, Nat.le_refl _, fun _ _ h1 _ h3 h4 => absurd ⟨h1, h3⟩ h4, h⟩

theorem PQ.step {a b x y : Nat} {d dk e : Array α} (h : PQ lt a b x y d dk) (hb : b ≤ d.size) (p : PermIn x y dk e) : PQ lt a b x y d e := by
  have hs := h.perm.1
  have h1 := h.ax
  have h2 := h.yb
  have h3 := h.xy
  refine ⟨permIn_trans _ _ _ _ _ h.perm (permIn_mono _ _ x y a b h1 h2 (by omega) p), h1, h3, h2, fun i j k1 k2 k3 k4 => ?_, ?_⟩
  · refine perm_across (fun u v => lt v u = false) p (by omega) i j fun i' j' hi hj => ?_
    exact h.rest i' j' (by omega) (by omega) (by omega) (by omega)
  · rcases h.below with h0 | hB
    · exact Or.inl h0
    · by_cases h0 : x = 0
      · exact Or.inl h0
      · refine Or.inr fun i k1 k2 => ?_
        rw [p.2.1 (x - 1) (by omega)]
        exact permIn_all dk e x y (fun v => lt v dk[x - 1]! = false) (by omega) p hB i k1 k2

theorem PQ.fin {a b x y : Nat} {d dk e : Array α} (h : PQ lt a b x y d dk) (hb : b ≤ d.size) (p : PermIn x y dk e) (o : SortedIn lt x y e) : PermIn a b d e ∧ SortedIn lt a b e := by
  have h1 := h.step hb p
  refine ⟨h1.perm, fun i j k1 k2 k3 => ?_⟩
  by_cases c : x ≤ i ∧ j < y
  · exact o i j c.1 k2 c.2
  · exact h1.rest i j k1 k2 k3 c

theorem PQ.eq (hT : SWO lt) {a b x y m : Nat} {d dk e : Array α} {p : α} (h : PQ lt a b x y d dk) (hb : b ≤ d.size) (hp : ∀ i, x ≤ i → i < y → lt dk[i]! p = false) (c : CutE lt x y m p dk e) : PQ lt a b m y d e := by
  have h1 := h.step hb c.perm
  have hs := h.perm.1
  have h2 := h.yb
  have k1 := c.am
  have hge : ∀ i, x ≤ i → i < y → lt e[i]! p = false := permIn_all dk e x y (fun v => lt v p = false) (by omega) c.perm hp
  have hax := h.ax
  refine ⟨h1.perm, by omega, c.mb, h2, fun i j q1 q2 q3 q4 => ?_, Or.inr fun i q1 q2 => ?_⟩
  · by_cases cc : x ≤ i ∧ j < y
    · exact hT.ntrans _ _ _ (hge j (by omega) cc.2) (c.low i cc.1 (by omega))
    · exact h1.rest i j q1 q2 q3 cc
  · exact hT.ntrans _ _ _ (hge i (by omega) q2) (c.low (m - 1) (by omega) (by omega))

theorem PQ.belowLeft {a b x y m : Nat} {d dk e : Array α} (h : PQ lt a b x y d dk) (hb : b ≤ d.size) (c : Cut lt x y m dk e) : Sort.Below lt x m e := by
  have h1 := h.step hb c.perm
  have k1 := c.mb
  rcases h1.below with h0 | hB
  · exact Or.inl h0
  · exact Or.inr fun i q1 q2 => hB i q1 (by omega)

theorem PQ.left (hT : SWO lt) {a b x y m : Nat} {d dk e f : Array α} (h : PQ lt a b x y d dk) (hb : b ≤ d.size) (c : Cut lt x y m dk e) (p : PermIn x m e f) (o : SortedIn lt x m f) : PQ lt a b (m + 1) y d f := by
  have hs := h.perm.1
  have hs2 := c.perm.1
  have h2 := h.yb
  have k1 := c.am
  have k2 := c.mb
  have hax := h.ax
  have h1 := (h.step hb c.perm).step hb (permIn_mono _ _ x m x y (Nat.le_refl _) (by omega) (by omega) p)
  have em : f[m]! = e[m]! := p.2.1 m (by omega)
  have lo : ∀ i, x ≤ i → i < m → lt f[i]! e[m]! = true := permIn_all e f x m (fun v => lt v e[m]! = true) (by omega) p c.low
  have hi : ∀ i, m < i → i < y → lt f[i]! e[m]! = false := fun i q1 q2 => by rw [p.2.1 i (by omega)]; exact c.high i q1 q2
  refine ⟨h1.perm, by omega, by omega, h2, fun i j q1 q2 q3 q4 => ?_, Or.inr fun i q1 q2 => ?_⟩
  · by_cases cc : x ≤ i ∧ j < y
    · by_cases c1 : j < m
      · exact o i j cc.1 q2 c1
      · by_cases c2 : j = m
        · subst c2; rw [em]; exact swo_asym hT (lo i cc.1 q2)
        · by_cases c3 : i < m
          · exact swo_lt_le' hT (lo i cc.1 c3) (hi j (by omega) cc.2)
          · obtain rfl : i = m := by omega
            rw [em]; exact hi j q2 cc.2
    · exact h1.rest i j q1 q2 q3 cc
  · rw [show m + 1 - 1 = m by omega, em]; exact hi i (by omega) q2

theorem PQ.right (hT : SWO lt) {a b x y m : Nat} {d dk e f : Array α} (h : PQ lt a b x y d dk) (hb : b ≤ d.size) (c : Cut lt x y m dk e) (p : PermIn (m + 1) y e f) (o : SortedIn lt (m + 1) y f) : PQ lt a b x m d f := by
  have hs := h.perm.1
  have hs2 := c.perm.1
  have h2 := h.yb
  have k1 := c.am
  have k2 := c.mb
  have hax := h.ax
  have h1 := (h.step hb c.perm).step hb (permIn_mono _ _ (m + 1) y x y (by omega) (Nat.le_refl _) (by omega) p)
  have em : f[m]! = e[m]! := p.2.1 m (by omega)
  have lo : ∀ i, x ≤ i → i < m → lt f[i]! e[m]! = true := fun i q1 q2 => by rw [p.2.1 i (by omega)]; exact c.low i q1 q2
  have hi : ∀ i, m < i → i < y → lt f[i]! e[m]! = false := fun i q1 q2 => permIn_all e f (m + 1) y (fun v => lt v e[m]! = false) (by omega) p (fun k r1 r2 => c.high k (by omega) r2) i q1 q2
  refine ⟨h1.perm, hax, k1, by omega, fun i j q1 q2 q3 q4 => ?_, ?_⟩
  · by_cases cc : x ≤ i ∧ j < y
    · by_cases c0 : m < i
      · exact o i j (by omega) q2 cc.2
      · by_cases c2 : j = m
        · subst c2; rw [em]; exact swo_asym hT (lo i cc.1 q2)
        · by_cases c3 : i < m
          · exact swo_lt_le' hT (lo i cc.1 c3) (hi j (by omega) cc.2)
          · obtain rfl : i = m := by omega
            rw [em]; exact hi j q2 cc.2
    · exact h1.rest i j q1 q2 q3 cc
  · rcases h1.below with h0 | hB
    · exact Or.inl h0
    · exact Or.inr fun i q1 q2 => hB i q1 (by omega)
theorem Cut.belowRight {x y m : Nat} {dk e : Array α} (c : Cut lt x y m dk e) : Sort.Below lt (m + 1) y e := Or.inr fun i q1 q2 => by
  rw [show m + 1 - 1 = m by omega]; exact c.high i (by omega) q2
end

end Go.Proofs.Ytfkhfkbkjiekkaa
