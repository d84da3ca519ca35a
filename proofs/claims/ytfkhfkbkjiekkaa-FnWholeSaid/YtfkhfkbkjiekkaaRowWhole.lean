/-
  FnWhole holds: for every input the law returns true and leaves its arguments as they were; no condition.
-/
import Derived.Test.YtfkhfkbkjiekkaaOpen
import Derived.Test.YtfkhfkbkjiekkaaLawWhole
namespace Go.Proofs.Ytfkhfkbkjiekkaa
open Go.ChangeShapes Go.WideShapes Go.ChangeAt Go.RowKit

set_option maxRecDepth 100000 in
theorem fnWhole_lifted (os : Os) (started : os.Started) (H : Type) (enc : TypeId × Value → H) :
    ReturnsInHanded {} Try.checked os 11 .any (Rows.fnWholeSpec.pre6 enc Try.prog Try.f11 Rows.fnWholeRow.domain false) (Rows.fnWholeSpec.post enc Try.prog Try.f11 false true false false) := by
  refine returnsInHanded_of_change (C := Try.checked) own started (by kernel_rfl) Try.func11
    (ChangeSpec.witness6 (enc := enc) (C := Try.checked) false ⟨#[], #[.slice none 0 0, .slice none 0 0, .int .i64 0], []⟩ 8 (by kernel_rfl) (by kernel_rfl) (by kernel_rfl) (by kernel_rfl)) ?_
  intro W base args ds gs before hval0 hW _ _
  have hval : ∀ (j : Nat) t v, Try.f11.params[j]? = some t → args[j]? = some v → Value.okWide Try.prog W .any base t v := hval0
  have hW' := hW
  obtain ⟨p, q, hA0, hV, rfl, hfz, hnd⟩ := hW
  have hA : DataW.TrodAll enc Try.prog W 0 (fun _ => true) true Try.f11.params.toList args.toList ds p := hA0
  rw [Try.params11] at hA hval
  obtain ⟨v0, v1, v2, d0, d1, d2, p0, p1, p2, rfl, rfl, rfl, h0, h1, h2⟩ := trodAll_three hA
  obtain ⟨rfl, rfl⟩ := trodVars_none hV
  obtain ⟨a0, r0, cap0, rfl, hI0, hwf0, hmx0⟩ := open_items (hval 0 22 v0 rfl rfl) h0
  obtain ⟨a1, r1, cap1, rfl, hI1, hwf1, hmx1⟩ := open_numbers (hval 1 23 v1 rfl rfl) h1
  obtain ⟨n2, rfl, rfl, rfl, wn2⟩ := open_int Try.underlying3 (hval 2 3 v2 rfl rfl) h2
  clear hA0 hval0
  simp only [List.append_nil] at hW'
  have hlt := fun x hx => hW'.lt x hx
  refine (lawWhole_any a0 a1 cap0 cap1 n2 r0 r1 W hI0 hI1 hwf0 ).mono fun e W' ⟨he, hg⟩ => ?_
  subst he
  have hb := hg
  exact ⟨_, rfl, _, _, _, [], _, [], hW', trodAll_mk1 (shut_bool Try.underlying4 true),
    trodAll_mk3 (Below.trod laidOut readable22 lt22 h0 hb (fun x hx => hlt x (by simp only [List.mem_append]; exact Or.inl hx))) (Below.trod laidOut readable23 lt23 h1 hb (fun x hx => hlt x (by simp only [List.mem_append]; exact Or.inr hx))) (shut_int Try.underlying3 wn2), rfl, hb.frame _, fun h => by cases h⟩

theorem fnWhole_holds : Rows.FnWholeSaid :=
  OpenClaim.holds_of_wide 11 Try.f11 rfl rfl rfl rfl rfl rfl rfl ⟨rfl, rfl, rfl, rfl, rfl⟩ rfl rfl rfl rfl rfl (by kernel_rfl) Try.func11 (by kernel_rfl)
    (of_decide_eq_true (by kernel_rfl)) (by unfold Func.isWrapper; first | (rw [if_pos (by decide +kernel)]; kernel_rfl) | (rw [if_neg (by decide +kernel)]; exact ⟨rfl, rfl⟩))
    (fun os started H enc _ => fnWhole_lifted os started H enc)

#print axioms fnWhole_holds
end Go.Proofs.Ytfkhfkbkjiekkaa
