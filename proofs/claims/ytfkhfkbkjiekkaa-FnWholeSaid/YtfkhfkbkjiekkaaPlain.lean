/-
  Plain law on insertion, without the program: laying in one by one gives a sorted list of the same elements, those that are equal as they stood; of a sorted list it gives the list itself; and there is one such list alone.
-/
namespace Go.Proofs.Ytfkhfkbkjiekkaa

/-- where x is laid in: ahead of it all that are not greater -/
def insPos {α : Type} (gt : α → α → Bool) (L : List α) (x : α) : Nat → Nat
  | 0 => 0
  | k + 1 => match L[k]? with
    | some y => if gt y x then insPos gt L x k else k + 1
    | none => k + 1

def insIn {α : Type} (gt : α → α → Bool) (L : List α) (x : α) : List α := L.take (insPos gt L x L.length) ++ x :: L.drop (insPos gt L x L.length)

/-- the first k laid in, one by one -/
def insAll {α : Type} (gt : α → α → Bool) (l : List α) : List α := l.foldl (insIn gt) []

def gtInt (a b : Int) : Bool := decide (b < a)

theorem insPos_le {α : Type} (gt : α → α → Bool) (L : List α) (x : α) : ∀ k, insPos gt L x k ≤ k
  | 0 => Nat.le_refl _
  | k + 1 => by
    unfold insPos
    split
    · split
      · exact Nat.le_succ_of_le (insPos_le gt L x k)
      · exact Nat.le_refl _
    · exact Nat.le_refl _

theorem length_insIn {α : Type} (gt : α → α → Bool) (L : List α) (x : α) : (insIn gt L x).length = L.length + 1 := by
  have := insPos_le gt L x L.length
  simp [insIn]
  omega

theorem length_foldl_insIn {α : Type} (gt : α → α → Bool) : ∀ (l L : List α), (l.foldl (insIn gt) L).length = L.length + l.length
  | [], L => rfl
  | x :: l, L => by rw [List.foldl_cons, length_foldl_insIn gt l, length_insIn]; simp; omega

theorem length_insAll {α : Type} (gt : α → α → Bool) (l : List α) : (insAll gt l).length = l.length := by
  unfold insAll; rw [length_foldl_insIn]; simp

theorem insAll_snoc {α : Type} (gt : α → α → Bool) (l : List α) (x : α) : insAll gt (l ++ [x]) = insIn gt (insAll gt l) x := by
  unfold insAll; rw [List.foldl_append]; rfl

/-- in order: no element greater than one behind it -/
def Ordered {α : Type} (gt : α → α → Bool) (L : List α) : Prop := L.Pairwise fun a b => gt a b = false

/-- 'gt' is the strict part of an order in which any two can be compared -/
structure Weak {α : Type} (gt : α → α → Bool) : Prop where
  trans : ∀ a b c, gt a b = false → gt b c = false → gt a c = false
  asym : ∀ a b, gt a b = true → gt b a = false

theorem insPos_spec {α : Type} (gt : α → α → Bool) (L : List α) (x : α) : ∀ k, k ≤ L.length →
    (∀ j y, insPos gt L x k ≤ j → j < k → L[j]? = some y → gt y x = true) ∧ (0 < insPos gt L x k → ∃ y, L[insPos gt L x k - 1]? = some y ∧ gt y x = false)
  | 0, _ => ⟨fun j y _ h => absurd h (Nat.not_lt_zero j), fun h => absurd h (Nat.lt_irrefl 0)⟩
  | k + 1, hk => by
    obtain ⟨y, hy⟩ : ∃ y, L[k]? = some y := ⟨L[k], List.getElem?_eq_getElem (by omega)⟩
    have e : insPos gt L x (k + 1) = if gt y x then insPos gt L x k else k + 1 := by rw [insPos, hy]
    cases hg : gt y x with
    | true =>
      rw [e, hg, if_pos rfl]
      obtain ⟨h1, h2⟩ := insPos_spec gt L x k (by omega)
      refine ⟨fun j z hj hjk hz => ?_, h2⟩
      by_cases hjk' : j = k
      · subst hjk'
        rw [hy] at hz
        injection hz with hz
        rw [← hz, hg]
      · exact h1 j z hj (by omega) hz
    | false =>
      rw [e, hg, if_neg (by simp)]
      exact ⟨fun j z hj hjk _ => absurd hj (by omega), fun _ => ⟨y, by simpa using hy, hg⟩⟩

section
variable {α : Type} {gt : α → α → Bool}

theorem insPos_below (hW : Weak gt) {L : List α} (hL : Ordered gt L) (x : α) {y : α} (hy : y ∈ L.take (insPos gt L x L.length)) : gt y x = false := by
  obtain ⟨h1, h2⟩ := insPos_spec gt L x L.length (Nat.le_refl _)
  obtain ⟨j, hj, hjy⟩ := List.mem_iff_getElem.1 hy
  have hp := insPos_le gt L x L.length
  simp only [List.length_take] at hj
  obtain ⟨z, hz, hg⟩ := h2 (by omega)
  obtain ⟨hzl, hze⟩ := List.getElem?_eq_some_iff.1 hz
  have hyj : y = L[j] := by rw [← hjy]; simp
  by_cases e : j = insPos gt L x L.length - 1
  · subst e; rw [hyj, hze]; exact hg
  · have := List.pairwise_iff_getElem.1 hL j (insPos gt L x L.length - 1) (by omega) hzl (by omega)
    rw [hze, ← hyj] at this
    exact hW.trans _ _ _ this hg

theorem insPos_above (gt : α → α → Bool) (L : List α) (x : α) {y : α} (hy : y ∈ L.drop (insPos gt L x L.length)) : gt y x = true := by
  obtain ⟨h1, _⟩ := insPos_spec gt L x L.length (Nat.le_refl _)
  obtain ⟨j, hj, hjy⟩ := List.mem_iff_getElem.1 hy
  simp only [List.length_drop] at hj
  rw [List.getElem_drop] at hjy
  exact h1 (insPos gt L x L.length + j) y (Nat.le_add_right _ _) (by omega) (by rw [List.getElem?_eq_getElem (by omega), hjy])

theorem insIn_ordered (hW : Weak gt) {L : List α} (hL : Ordered gt L) (x : α) : Ordered gt (insIn gt L x) := by
  unfold Ordered insIn
  rw [List.pairwise_append, List.pairwise_cons]
  have hsplit : L.take (insPos gt L x L.length) ++ L.drop (insPos gt L x L.length) = L := List.take_append_drop _ _
  have hL' : Ordered gt (L.take (insPos gt L x L.length) ++ L.drop (insPos gt L x L.length)) := by rw [hsplit]; exact hL
  unfold Ordered at hL'
  rw [List.pairwise_append] at hL'
  refine ⟨hL'.1, ⟨fun y hy => hW.asym _ _ (insPos_above gt L x hy), hL'.2.1⟩, fun a ha b hb => ?_⟩
  rcases List.mem_cons.1 hb with rfl | hb
  · exact insPos_below hW hL _ ha
  · exact hL'.2.2 a ha b hb

theorem insIn_perm (gt : α → α → Bool) (L : List α) (x : α) : (insIn gt L x).Perm (x :: L) := by
  unfold insIn
  refine List.perm_middle.trans (List.Perm.cons _ ?_)
  rw [List.take_append_drop]

theorem foldl_ordered (hW : Weak gt) : ∀ (l L : List α), Ordered gt L → Ordered gt (l.foldl (insIn gt) L)
  | [], _, h => h
  | x :: l, _, h => foldl_ordered hW l _ (insIn_ordered hW h x)

theorem foldl_perm (gt : α → α → Bool) : ∀ (l L : List α), (l.foldl (insIn gt) L).Perm (L ++ l)
  | [], L => by simp
  | x :: l, L => by
    rw [List.foldl_cons]
    refine (foldl_perm gt l _).trans ?_
    refine (List.Perm.append_right l (insIn_perm gt L x)).trans ?_
    exact (List.perm_middle (l₁ := L) (a := x) (l₂ := l)).symm

theorem insAll_ordered (hW : Weak gt) (l : List α) : Ordered gt (insAll gt l) := foldl_ordered hW l [] List.Pairwise.nil
theorem insAll_perm (gt : α → α → Bool) (l : List α) : (insAll gt l).Perm l := by
  have := foldl_perm gt l []
  simpa [insAll] using this

/-- of a list in order it is the list itself -/
theorem foldl_same (gt : α → α → Bool) : ∀ (l L : List α), Ordered gt (L ++ l) → l.foldl (insIn gt) L = L ++ l
  | [], L, _ => by simp
  | x :: l, L, h => by
    have e : insIn gt L x = L ++ [x] := by
      have hp : insPos gt L x L.length = L.length := by
        cases hl : L.length with
        | zero => rfl
        | succ k =>
          have hy : L[k]? = some L[k] := List.getElem?_eq_getElem (by omega)
          rw [insPos, hy]
          unfold Ordered at h
          have := (List.pairwise_append.1 h).2.2 L[k] (List.getElem_mem _) x (by simp)
          simp only [this, Bool.false_eq_true, if_false]
      unfold insIn
      rw [hp]
      simp
    rw [List.foldl_cons, e, foldl_same gt l (L ++ [x]) (by simpa using h)]
    simp
theorem insAll_same {l : List α} (h : Ordered gt l) : insAll gt l = l := by
  have := foldl_same gt l [] (by simpa using h)
  simpa [insAll] using this

/-- of each class of equals the elements are as they stood -/
theorem foldl_filter (hW : Weak gt) (p : α → Bool) (hp : ∀ a b, p a = true → p b = true → gt a b = false) : ∀ (l L : List α), Ordered gt L → (l.foldl (insIn gt) L).filter p = L.filter p ++ l.filter p
  | [], L, _ => by simp
  | x :: l, L, h => by
    rw [List.foldl_cons, foldl_filter hW p hp l _ (insIn_ordered hW h x), List.filter_cons]
    have e : (insIn gt L x).filter p = L.filter p ++ [x].filter p := by
      unfold insIn
      rw [List.filter_append, List.filter_cons]
      have hs : L.filter p = (L.take (insPos gt L x L.length)).filter p ++ (L.drop (insPos gt L x L.length)).filter p := by rw [← List.filter_append, List.take_append_drop]
      cases hx : p x with
      | false => rw [hs]; simp [hx]
      | true =>
        have hd : (L.drop (insPos gt L x L.length)).filter p = [] := by
          rw [List.filter_eq_nil_iff]
          intro y hy hpy
          have := hp y x hpy hx
          rw [insPos_above gt L x hy] at this
          cases this
        rw [hs, hd]
        simp [hx]
    rw [e, List.append_assoc]
    congr 1
    cases hx : p x <;> simp [hx]
theorem insAll_filter (hW : Weak gt) (p : α → Bool) (hp : ∀ a b, p a = true → p b = true → gt a b = false) (l : List α) : (insAll gt l).filter p = l.filter p := by
  have := foldl_filter hW p hp l [] List.Pairwise.nil
  simpa [insAll] using this
end

theorem weak_int : Weak gtInt where
  trans a b c h1 h2 := by unfold gtInt at *; simp at *; omega
  asym a b h := by unfold gtInt at *; simp at *; omega

/-- two lists in order of the same numbers are one -/
theorem ints_unique {a b : List Int} (ha : Ordered gtInt a) (hb : Ordered gtInt b) (hp : a.Perm b) : a = b :=
  hp.eq_of_pairwise (le := fun a b => gtInt a b = false) (fun x y _ _ h1 h2 => by unfold gtInt at *; simp at *; omega) ha hb

end Go.Proofs.Ytfkhfkbkjiekkaa
