/-
  Plain law of the partitions, without the program: what each step of the two scans keeps.
-/
import Derived.Sort.Lot0
import Derived.Test.YtfkhfkbkjiekkaaMerge
namespace Go.Proofs.Ytfkhfkbkjiekkaa
open Go.Sort
section
variable {α : Type} [Inhabited α] {lt : α → α → Bool}

/-- under way: what is below i is less than the pivot at a, what is above j is not -/
structure PS (lt : α → α → Bool) (a b i j : Nat) (d dk : Array α) : Prop where
  perm : PermIn a b d dk
  ai : a < i
  ij : i ≤ j + 1
  jb : j < b
  low : ∀ k, a < k → k < i → lt dk[k]! dk[a]! = true
  high : ∀ k, j < k → k < b → lt dk[k]! dk[a]! = false
/-- what a partition leaves -/
structure Cut (lt : α → α → Bool) (a b m : Nat) (d dk : Array α) : Prop where
  perm : PermIn a b d dk
  am : a ≤ m
  mb : m < b
  low : ∀ k, a ≤ k → k < m → lt dk[k]! dk[m]! = true
  high : ∀ k, m < k → k < b → lt dk[k]! dk[m]! = false

theorem PS.start {a b pivot : Nat} {d : Array α} (h1 : a ≤ pivot) (h2 : pivot < b) (hb : b ≤ d.size) : PS lt a b (a + 1) (b - 1) d (swp d a pivot) :=
  ⟨swp_permIn d a b a pivot (Nat.le_refl _) (by omega) h1 h2 hb, by omega, by omega, by omega, fun k h3 h4 => by omega, fun k h3 h4 => by omega⟩
theorem PS.up {a b i j : Nat} {d dk : Array α} (h : PS lt a b i j d dk) (hij : i ≤ j) (hl : lt dk[i]! dk[a]! = true) : PS lt a b (i + 1) j d dk :=
  ⟨h.perm, by have := h.ai; omega, by omega, h.jb, fun k h3 h4 => by
    by_cases e : k = i
    · rw [e]; exact hl
    · exact h.low k h3 (by omega), h.high⟩
theorem PS.down {a b i j : Nat} {d dk : Array α} (h : PS lt a b i (j + 1) d dk) (hij : i ≤ j + 1) (hl : lt dk[j + 1]! dk[a]! = false) : PS lt a b i j d dk :=
  ⟨h.perm, h.ai, by omega, by have := h.jb; omega, h.low, fun k h3 h4 => by
    by_cases e : k = j + 1
    · rw [e]; exact hl
    · exact h.high k (by omega) h4⟩
theorem PS.swap {a b i j : Nat} {d dk : Array α} (h : PS lt a b i (j + 1) d dk) (hb : b ≤ d.size) (hij : i < j + 1) (hi : lt dk[i]! dk[a]! = false) (hj : lt dk[j + 1]! dk[a]! = true) : PS lt a b (i + 1) j d (swp dk i (j + 1)) := by
  have h1 := h.ai
  have h2 := h.jb
  have hs := h.perm.1
  have ea : (swp dk i (j + 1))[a]! = dk[a]! := swp_other _ _ _ _ (by omega) (by omega)
  refine ⟨permIn_trans _ _ _ _ _ h.perm (swp_permIn dk a b i (j + 1) (by omega) (by omega) (by omega) h2 (by omega)), by omega, by omega, by omega, fun k h3 h4 => ?_, fun k h3 h4 => ?_⟩
  · rw [ea]
    by_cases e : k = i
    · subst e; rw [swp_left _ _ _ (by omega) (by omega)]; exact hj
    · rw [swp_other _ _ _ _ e (by omega)]; exact h.low k h3 (by omega)
  · rw [ea]
    by_cases e : k = j + 1
    · subst e; rw [swp_right _ _ _ (by omega)]; exact hi
    · rw [swp_other _ _ _ _ (by omega) e]; exact h.high k (by omega) h4
theorem PS.done {a b i j : Nat} {d dk : Array α} (h : PS lt a b i j d dk) (hb : b ≤ d.size) (hij : j < i) : Cut lt a b j d (swp dk j a) := by
  have h1 := h.ai
  have h2 := h.jb
  have h3 := h.ij
  have hs := h.perm.1
  have em : (swp dk j a)[j]! = dk[a]! := by
    by_cases e : j = a
    · subst e; exact swp_right _ _ _ (by omega)
    · exact swp_left _ _ _ (by omega) e
  refine ⟨permIn_trans _ _ _ _ _ h.perm (swp_permIn dk a b j a (by omega) h2 (Nat.le_refl _) (by omega) (by omega)), by omega, h2, fun k h3 h4 => ?_, fun k h3 h4 => ?_⟩
  · rw [em]
    by_cases e : k = a
    · subst e; rw [swp_right _ _ _ (by omega)]; exact h.low j (by omega) (by omega)
    · rw [swp_other _ _ _ _ (by omega) e]; exact h.low k (by omega) (by omega)
  · rw [em, swp_other _ _ _ _ (by omega) (by omega)]; exact h.high k h3 h4

/-- the same for the partition into equals and greater ones -/
structure QS (lt : α → α → Bool) (a b i j : Nat) (d dk : Array α) : Prop where
  perm : PermIn a b d dk
  ai : a < i
  ij : i ≤ j + 1
  jb : j < b
  low : ∀ k, a < k → k < i → lt dk[a]! dk[k]! = false
  high : ∀ k, j < k → k < b → lt dk[a]! dk[k]! = true
structure CutE (lt : α → α → Bool) (a b m : Nat) (p : α) (d dk : Array α) : Prop where
  perm : PermIn a b d dk
  am : a < m
  mb : m ≤ b
  low : ∀ k, a ≤ k → k < m → lt p dk[k]! = false
  high : ∀ k, m ≤ k → k < b → lt p dk[k]! = true
theorem QS.start {a b pivot : Nat} {d : Array α} (h1 : a ≤ pivot) (h2 : pivot < b) (hb : b ≤ d.size) : QS lt a b (a + 1) (b - 1) d (swp d a pivot) :=
  ⟨swp_permIn d a b a pivot (Nat.le_refl _) (by omega) h1 h2 hb, by omega, by omega, by omega, fun k h3 h4 => by omega, fun k h3 h4 => by omega⟩
theorem QS.up {a b i j : Nat} {d dk : Array α} (h : QS lt a b i j d dk) (hij : i ≤ j) (hl : lt dk[a]! dk[i]! = false) : QS lt a b (i + 1) j d dk :=
  ⟨h.perm, by have := h.ai; omega, by omega, h.jb, fun k h3 h4 => by
    by_cases e : k = i
    · rw [e]; exact hl
    · exact h.low k h3 (by omega), h.high⟩
theorem QS.down {a b i j : Nat} {d dk : Array α} (h : QS lt a b i (j + 1) d dk) (hij : i ≤ j + 1) (hl : lt dk[a]! dk[j + 1]! = true) : QS lt a b i j d dk :=
  ⟨h.perm, h.ai, by omega, by have := h.jb; omega, h.low, fun k h3 h4 => by
    by_cases e : k = j + 1
    · rw [e]; exact hl
    · exact h.high k (by omega) h4⟩
theorem QS.swap {a b i j : Nat} {d dk : Array α} (h : QS lt a b i (j + 1) d dk) (hb : b ≤ d.size) (hij : i < j + 1) (hi : lt dk[a]! dk[i]! = true) (hj : lt dk[a]! dk[j + 1]! = false) : QS lt a b (i + 1) j d (swp dk i (j + 1)) := by
  have h1 := h.ai
  have h2 := h.jb
  have hs := h.perm.1
  have ea : (swp dk i (j + 1))[a]! = dk[a]! := swp_other _ _ _ _ (by omega) (by omega)
  refine ⟨permIn_trans _ _ _ _ _ h.perm (swp_permIn dk a b i (j + 1) (by omega) (by omega) (by omega) h2 (by omega)), by omega, by omega, by omega, fun k h3 h4 => ?_, fun k h3 h4 => ?_⟩
  · rw [ea]
    by_cases e : k = i
    · subst e; rw [swp_left _ _ _ (by omega) (by omega)]; exact hj
    · rw [swp_other _ _ _ _ e (by omega)]; exact h.low k h3 (by omega)
  · rw [ea]
    by_cases e : k = j + 1
    · subst e; rw [swp_right _ _ _ (by omega)]; exact hi
    · rw [swp_other _ _ _ _ (by omega) e]; exact h.high k (by omega) h4
/-- the pivot's value is what it was: a is not moved -/
theorem QS.done {a b i j : Nat} {d dk : Array α} (h : QS lt a b i j d dk) (hT : SWO lt) (hij : j < i) (p : α) (hp : dk[a]! = p) : CutE lt a b i p d dk := by
  have h1 := h.ai
  have h2 := h.jb
  have h3 := h.ij
  subst hp
  refine ⟨h.perm, h1, by omega, fun k k1 k2 => ?_, fun k k1 k2 => h.high k (by omega) k2⟩
  by_cases e : k = a
  · subst e; exact hT.irrefl _
  · exact h.low k (by omega) k2
end

end Go.Proofs.Ytfkhfkbkjiekkaa
