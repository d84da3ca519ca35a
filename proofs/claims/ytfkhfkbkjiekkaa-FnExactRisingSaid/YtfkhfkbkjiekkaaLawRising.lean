/-
  FnExactRising holds: for every list of numbers the law returns true and leaves its argument as it was; no condition.
-/
import Derived.Test.YtfkhfkbkjiekkaaOpen
import Derived.Test.YtfkhfkbkjiekkaaSorted
import Derived.Test.YtfkhfkbkjiekkaaInts
namespace Go.Proofs.Ytfkhfkbkjiekkaa
open Go.ChangeShapes Go.WideShapes Go.ChangeAt Go.RowKit

theorem fallsNot_iff (d : Array Int) : ∀ k, fallsNot d k = true ↔ ∀ i, i < k → ¬ d[i + 1]! < d[i]!
  | 0 => by simp [fallsNot]
  | k + 1 => by
    rw [fallsNot]
    split
    · rename_i h
      constructor
      · intro e; cases e
      · intro e; exact absurd h (e k (by omega))
    · rename_i h
      rw [fallsNot_iff d k]
      constructor
      · intro e i hi
        by_cases hik : i = k
        · subst hik; exact h
        · exact e i (by omega)
      · intro e i hi; exact e i (by omega)

theorem ordered_of_steps (d : Array Int) (h : ∀ i, i < d.size - 1 → ¬ d[i + 1]! < d[i]!) : Ordered gtInt d.toList := by
  have step : ∀ k i, i + k < d.size → d[i]! ≤ d[i + k]! := by
    intro k
    induction k with
    | zero => intro i _; exact Int.le_refl _
    | succ k ih =>
      intro i hi
      have h1 := ih i (by omega)
      have h2 := h (i + k) (by omega)
      rw [show i + (k + 1) = i + k + 1 by omega]
      omega
  refine List.pairwise_iff_getElem.2 fun i j hi hj hij => ?_
  simp only [Array.length_toList] at hi hj
  have := step (j - i) i (by omega)
  rw [show i + (j - i) = j by omega, getElem!_pos d i hi, getElem!_pos d j hj] at this
  unfold gtInt
  simp
  exact this

theorem rising_is (d : Array Int) : fallsNot d (d.size - 1) = decide (d = (insAll gtInt d.toList).toArray) := by
  rw [Bool.eq_iff_iff, decide_eq_true_iff, fallsNot_iff]
  constructor
  · intro h
    rw [insAll_same (ordered_of_steps d h)]
  · intro h i hi
    have ho := insAll_ordered weak_int d.toList
    have hl : d.toList = insAll gtInt d.toList := by conv => lhs; rw [h]
    rw [← hl] at ho
    have := List.pairwise_iff_getElem.1 ho i (i + 1) (by simp; omega) (by simp; omega) (by omega)
    unfold gtInt at this
    simp at this
    rw [getElem!_pos d i (by omega), getElem!_pos d (i + 1) (by omega)]
    omega

set_option maxHeartbeats 1000000 in
theorem lawRising_any (p : Option Addr) (cap : Nat) (d : Array Int) (w : World) (hI : Ints w p d) :
    Calls Try.prog 4 #[.slice p d.size cap] w fun e w' => e = .returned (.bool true) ∧ Below w.heap.size w w' := by
  by_cases h1 : 2147483647 < (d.size : Int)
  · go_enter Try.func4, Try.ntmps4
    go_wp2
    go_ret
    exact ⟨rfl, Below.refl _ _⟩
  · by_cases h2 : 4096 < (d.size : Int)
    · go_enter Try.func4, Try.ntmps4
      go_wp2
      go_ret
      exact ⟨rfl, Below.refl _ _⟩
    · have h15 := rising_any p cap d w hI (by omega)
      have h17 := fun w1 (g : Dr w w1) => sorted_any p cap d w1 (hI.below g.below) (by omega)
      rw [rising_is] at h15
      have H17 := hidden h17
      clear h17
      go_enter Try.func4, Try.ntmps4
      go_wp2_with fail
      refine h15.mono ?_
      rintro e w1 ⟨rfl, hg1⟩
      have c17 := H17.out _ hg1
      clear h15
      go_wp2_with fail
      refine c17.mono ?_
      rintro e w2 ⟨q, c, rfl, hown, hb⟩
      obtain ⟨hl, hq⟩ := ownsRow_ints hown
      have hd2 : Ints w2 p d := (hI.below hg1.below).below (by rw [show w1.heap.size = w1.heap.size from rfl]; exact hb)
      have c16 := equal_any p q cap c d (insAll gtInt d.toList).toArray w2 hd2 hq (by omega)
      rw [show (insAll gtInt d.toList).toArray.size = d.size by simp [length_insAll]] at c16
      clear hown hl
      generalize decide (d = (insAll gtInt d.toList).toArray) = r at c16 ⊢
      go_wp2_with fail
      refine c16.mono ?_
      rintro e w3 ⟨rfl, hg3⟩
      go_wp2
      go_ret
      refine ⟨ret_bool (by simp), ?_⟩
      have e1 : w1.heap.size = w.heap.size := by obtain ⟨n, rfl⟩ := hg1; rfl
      rw [e1] at hb
      exact (hg1.below.trans hb).trans hg3.below

set_option maxRecDepth 100000 in
theorem rising_lifted (os : Os) (started : os.Started) (H : Type) (enc : TypeId × Value → H) :
    ReturnsInHanded {} Try.checked os 4 .any (Rows.fnExactRisingSpec.pre6 enc Try.prog Try.f4 Rows.fnExactRisingRow.domain false) (Rows.fnExactRisingSpec.post enc Try.prog Try.f4 false true false false) := by
  refine returnsInHanded_of_change (C := Try.checked) own started (by kernel_rfl) Try.func4
    (ChangeSpec.witness6 (enc := enc) (C := Try.checked) false ⟨#[], #[.slice none 0 0], []⟩ 8 (by kernel_rfl) (by kernel_rfl) (by kernel_rfl) (by kernel_rfl)) ?_
  intro W base args ds gs before hval0 hW _ _
  have hval : ∀ (j : Nat) t v, Try.f4.params[j]? = some t → args[j]? = some v → Value.okWide Try.prog W .any base t v := hval0
  have hW' := hW
  obtain ⟨p, q, hA0, hV, rfl, hfz, hnd⟩ := hW
  have hA : DataW.TrodAll enc Try.prog W 0 (fun _ => true) true Try.f4.params.toList args.toList ds p := hA0
  rw [Try.params4] at hA hval
  obtain ⟨v0, d0, rfl, rfl, h0⟩ := trodAll_one hA
  obtain ⟨rfl, rfl⟩ := trodVars_none hV
  obtain ⟨a0, items, cap0, rfl, hI, _, _⟩ := open_numbers (hval 0 23 v0 rfl rfl) h0
  clear hA0 hval0
  simp only [List.append_nil] at hW'
  have hlt := fun x hx => hW'.lt x hx
  refine (lawRising_any a0 cap0 items W hI).mono fun e W' ⟨he, hb⟩ => ?_
  subst he
  exact ⟨_, rfl, _, _, _, [], _, [], hW', trodAll_mk1 (shut_bool Try.underlying4 true),
    trodAll_mk1 (Below.trod laidOut readable23 lt23 h0 hb hlt), rfl, hb.frame _, fun h => by cases h⟩

theorem rising_holds : Rows.FnExactRisingSaid :=
  OpenClaim.holds_of_wide 4 Try.f4 rfl rfl rfl rfl rfl rfl rfl ⟨rfl, rfl, rfl, rfl, rfl⟩ rfl rfl rfl rfl rfl (by kernel_rfl) Try.func4 (by kernel_rfl)
    (of_decide_eq_true (by kernel_rfl)) (by unfold Func.isWrapper; first | (rw [if_pos (by decide +kernel)]; kernel_rfl) | (rw [if_neg (by decide +kernel)]; exact ⟨rfl, rfl⟩))
    (fun os started H enc _ => rising_lifted os started H enc)

#print axioms rising_holds
end Go.Proofs.Ytfkhfkbkjiekkaa
