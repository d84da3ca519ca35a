/-
  A row's arguments as plain data: a slice of items, a slice of numbers; and the row's last step behind a call that has left all old memory alone.
-/
import Derived.Test.YtfkhfkbkjiekkaaRows
import Derived.Test.YtfkhfkbkjiekkaaCmp
import Derived.ProofKit
import Derived.Deep.SlicePairs
namespace Go.Proofs.Ytfkhfkbkjiekkaa
open Go.ChangeShapes Go.WideShapes Go.ChangeAt Go.RowKit Go.Deep

theorem own : ownKnob Try.prog.godebug = none := by kernel_rfl
theorem laidOut : laidOutB Try.prog = true := by kernel_rfl
theorem cells3 : Try.prog.cellsOf 3 = 1 := by kernel_rfl
theorem cells34 : Try.prog.cellsOf 34 = 2 := by kernel_rfl
theorem readable22 : Try.prog.readableRec 22 = true := by kernel_rfl
theorem readable23 : Try.prog.readableRec 23 = true := by kernel_rfl
theorem readable3 : Try.prog.readableRec 3 = true := by kernel_rfl
theorem types_lt : 34 < Try.prog.types.size := of_decide_eq_true (by kernel_rfl)

theorem lt22 : 22 < Try.prog.types.size := Nat.lt_trans (by decide) types_lt
theorem lt23 : 23 < Try.prog.types.size := Nat.lt_trans (by decide) types_lt
theorem lt3 : 3 < Try.prog.types.size := Nat.lt_trans (by decide) types_lt

section
variable {H : Type} {enc : TypeId × Value → H} {W : World} {base b0 : Nat} {spare : Nat → Bool} {held : Bool}

theorem get_ofFn {α : Type} [Inhabited α] (n : Nat) (f : Nat → α) (i : Nat) (hi : i < n) : ((List.range n).map f).toArray[i]! = f i := by
  rw [getElem!_pos _ i (by simpa using hi)]
  simp

theorem open_items {v : Value} {d : DataW H} {ps : List MemPlace} (hv : Value.okWide Try.prog W .any b0 22 v) (h : DataW.Trod enc Try.prog W base spare held 22 v d ps) :
    ∃ (p : Option Addr) (r : Array (Int × Int)) (cap : Nat), v = .slice p r.size cap ∧ Items W p r ∧ (∀ i, i < r.size → (Lit.int .i64 r[i]!.1).wf = true ∧ (Lit.int .i64 r[i]!.2).wf = true) ∧ r.size ≤ maxLen := by
  obtain ⟨a0, len, cap, rfl⟩ := okWide_slice Try.underlying22 hv
  obtain ⟨fuel, hf⟩ := h
  rcases open_slice_pairs Try.underlying22 Try.underlying34 cells34 rfl rfl cells3 cells3 hf with ⟨hcs, _⟩ | ⟨a, len', cap', m, n, V0, V1, D0, D1, P0, P1, hcs, _, hl, hm, hmm, _, hx⟩
  · simp [Value.cells] at hcs
    obtain ⟨rfl, rfl, rfl⟩ := hcs
    exact ⟨none, #[], 0, rfl, Or.inl rfl, fun i hi => absurd hi (Nat.not_lt_zero _), Nat.zero_le _⟩
  · simp [Value.cells] at hcs
    obtain ⟨rfl, rfl, rfl⟩ := hcs
    have hlm : len ≤ m := by rw [hmm]; split <;> omega
    have each : ∀ i, i < len → ∃ x : Int × Int, W.cell? (a.add (i * 2)) = some (.int .i64 x.1) ∧ W.cell? (a.add (i * 2 + 1)) = some (.int .i64 x.2) ∧ (Lit.int .i64 x.1).wf = true ∧ (Lit.int .i64 x.2).wf = true := fun i hi => by
      obtain ⟨c0, c1, t0, t1⟩ := hx i (by omega)
      obtain ⟨k, e0, _, w0⟩ := DataW.trod_int Try.underlying3 t0
      obtain ⟨k', e1, _, w1⟩ := DataW.trod_int Try.underlying3 t1
      simp at e0 e1
      rw [e0] at c0
      rw [e1] at c1
      exact ⟨(k, k'), c0, c1, w0, w1⟩
    obtain ⟨f, hf'⟩ := choose_lt each
    refine ⟨some a, ((List.range len).map f).toArray, cap, by simp, ?_, fun i hi => ?_, by simp; omega⟩
    · by_cases h0 : len = 0
      · left; simp [h0]
      · right
        obtain ⟨bb, off, spot⟩ := a
        have hspot : spot = none := by simpa [Addr.add] using World.cell?_spot (hf' 0 (by omega)).1
        subst hspot
        refine ⟨bb, off, rfl, fun i hi => ?_⟩
        have hi' : i < len := by simpa using hi
        rw [get_ofFn _ _ _ hi']
        have := hf' i hi'
        rw [add_plain, add_plain] at this
        exact ⟨this.1, this.2.1⟩
    · have hi' : i < len := by simpa using hi
      rw [get_ofFn _ _ _ hi']
      exact (hf' i hi').2.2

theorem open_numbers {v : Value} {d : DataW H} {ps : List MemPlace} (hv : Value.okWide Try.prog W .any b0 23 v) (h : DataW.Trod enc Try.prog W base spare held 23 v d ps) :
    ∃ (p : Option Addr) (r : Array Int) (cap : Nat), v = .slice p r.size cap ∧ Ints W p r ∧ (∀ i, i < r.size → (Lit.int .i64 r[i]!).wf = true) ∧ r.size ≤ maxLen := by
  obtain ⟨a0, len, cap, rfl⟩ := okWide_slice Try.underlying23 hv
  obtain ⟨fuel, hf⟩ := h
  rcases open_ints Try.underlying23 Try.underlying3 cells3 hf with ⟨hcs, _⟩ | ⟨a, len', cap', zs, hcs, _, hl, hm, hz, _, hcell, hwz⟩
  · simp [Value.cells] at hcs
    obtain ⟨rfl, rfl, rfl⟩ := hcs
    exact ⟨none, #[], 0, rfl, Or.inl rfl, fun i hi => absurd hi (Nat.not_lt_zero _), Nat.zero_le _⟩
  · simp [Value.cells] at hcs
    obtain ⟨rfl, rfl, rfl⟩ := hcs
    have hlz : len ≤ zs.length := by rw [hz]; split <;> omega
    have hg : ∀ i, i < len → ((zs.take len).toArray)[i]! = zs.getD i 0 := fun i hi => by
      rw [getElem!_pos _ i (by simp; omega)]
      simp [List.getElem?_eq_getElem (show i < zs.length by omega)]
    refine ⟨some a, (zs.take len).toArray, cap, by simp; omega, ?_, fun i hi => ?_, by simp; omega⟩
    · by_cases h0 : len = 0
      · left; simp [h0]
      · right
        obtain ⟨bb, off, spot⟩ := a
        have hspot : spot = none := by simpa [Addr.add] using World.cell?_spot (hcell 0 (by omega))
        subst hspot
        refine ⟨bb, off, rfl, fun i hi => ?_⟩
        have hi' : i < len := by simp at hi; omega
        rw [hg i hi']
        rw [← add_plain]
        exact hcell i (by omega)
    · have hi' : i < len := by simp at hi; omega
      rw [hg i hi']
      exact hwz _ (by rw [List.getD_eq_getElem?_getD, List.getElem?_eq_getElem (show i < zs.length by omega)]; simp)
end

end Go.Proofs.Ytfkhfkbkjiekkaa
