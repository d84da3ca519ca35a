/-
  Plain law: the two shifts of the partial insertion sort keep the size.
-/
import Derived.Sort.Lot0
namespace Go.Proofs.Ytfkhfkbkjiekkaa
open Go.Sort
variable {α : Type} [Inhabited α]
theorem size_shiftDown (lt : α → α → Bool) : ∀ (j : Nat) (d : Array α), (shiftDown lt j d).size = d.size
  | 0, d => by rw [shiftDown]
  | j + 1, d => by
    rw [shiftDown]
    split
    · rfl
    · rw [size_shiftDown lt j, size_swp]
theorem size_shiftUp_n (lt : α → α → Bool) (b : Nat) : ∀ (n j : Nat) (d : Array α), b - j = n → (shiftUp lt b j d).size = d.size
  | 0, j, d, h => by rw [shiftUp, if_neg (by omega)]
  | n + 1, j, d, h => by
    rw [shiftUp, if_pos (by omega)]
    split
    · rfl
    · rw [size_shiftUp_n lt b n (j + 1) _ (by omega), size_swp]
theorem size_shiftUp (lt : α → α → Bool) (b j : Nat) (d : Array α) : (shiftUp lt b j d).size = d.size := size_shiftUp_n lt b _ j d rfl
end Go.Proofs.Ytfkhfkbkjiekkaa
