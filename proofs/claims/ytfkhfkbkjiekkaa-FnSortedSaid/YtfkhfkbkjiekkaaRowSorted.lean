/-
  FnSorted holds: for every input the law returns true and leaves its arguments as they were; no condition.
-/
import Derived.Test.YtfkhfkbkjiekkaaOpen
import Derived.Test.YtfkhfkbkjiekkaaLawSorted
namespace Go.Proofs.Ytfkhfkbkjiekkaa
open Go.ChangeShapes Go.WideShapes Go.ChangeAt Go.RowKit

set_option maxRecDepth 100000 in
theorem fnSorted_lifted (os : Os) (started : os.Started) (H : Type) (enc : TypeId × Value → H) :
    ReturnsInHanded {} Try.checked os 9 .any (Rows.fnSortedSpec.pre6 enc Try.prog Try.f9 Rows.fnSortedRow.domain false) (Rows.fnSortedSpec.post enc Try.prog Try.f9 false true false false) := by
  refine returnsInHanded_of_change (C := Try.checked) own started (by kernel_rfl) Try.func9
    (ChangeSpec.witness6 (enc := enc) (C := Try.checked) false ⟨#[], #[.slice none 0 0, .slice none 0 0], []⟩ 8 (by kernel_rfl) (by kernel_rfl) (by kernel_rfl) (by kernel_rfl)) ?_
  intro W base args ds gs before hval0 hW _ _
  have hval : ∀ (j : Nat) t v, Try.f9.params[j]? = some t → args[j]? = some v → Value.okWide Try.prog W .any base t v := hval0
  have hW' := hW
  obtain ⟨p, q, hA0, hV, rfl, hfz, hnd⟩ := hW
  have hA : DataW.TrodAll enc Try.prog W 0 (fun _ => true) true Try.f9.params.toList args.toList ds p := hA0
  rw [Try.params9] at hA hval
  obtain ⟨v0, v1, d0, d1, p0, p1, rfl, rfl, rfl, h0, h1⟩ := trodAll_two hA
  obtain ⟨rfl, rfl⟩ := trodVars_none hV
  obtain ⟨a0, r0, cap0, rfl, hI0, hwf0, hmx0⟩ := open_items (hval 0 22 v0 rfl rfl) h0
  obtain ⟨a1, r1, cap1, rfl, hI1, hwf1, hmx1⟩ := open_numbers (hval 1 23 v1 rfl rfl) h1
  clear hA0 hval0
  simp only [List.append_nil] at hW'
  have hlt := fun x hx => hW'.lt x hx
  refine (lawSorted_any a0 a1 cap0 cap1 r0 r1 W hI0 hI1 hwf0 ).mono fun e W' ⟨he, hg⟩ => ?_
  subst he
  have hb := hg
  exact ⟨_, rfl, _, _, _, [], (p0 ++ p1), [], hW', trodAll_mk1 (shut_bool Try.underlying4 true),
    trodAll_mk2 (Below.trod laidOut readable22 lt22 h0 hb (fun x hx => hlt x (List.mem_append_left _ hx))) (Below.trod laidOut readable23 lt23 h1 hb (fun x hx => hlt x (List.mem_append_right _ hx))), rfl, hb.frame _, fun h => by cases h⟩

theorem fnSorted_holds : Rows.FnSortedSaid :=
  OpenClaim.holds_of_wide 9 Try.f9 rfl rfl rfl rfl rfl rfl rfl ⟨rfl, rfl, rfl, rfl, rfl⟩ rfl rfl rfl rfl rfl (by kernel_rfl) Try.func9 (by kernel_rfl)
    (of_decide_eq_true (by kernel_rfl)) (by unfold Func.isWrapper; first | (rw [if_pos (by decide +kernel)]; kernel_rfl) | (rw [if_neg (by decide +kernel)]; exact ⟨rfl, rfl⟩))
    (fun os started H enc _ => fnSorted_lifted os started H enc)

#print axioms fnSorted_holds
end Go.Proofs.Ytfkhfkbkjiekkaa
