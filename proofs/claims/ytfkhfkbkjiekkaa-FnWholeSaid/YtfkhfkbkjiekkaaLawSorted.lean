/-
  'FnSorted', walked: well, impl.SortFunc, spec.Mixed, spec.InOrder.
-/
import Derived.Test.YtfkhfkbkjiekkaaSortItems
import Derived.Test.YtfkhfkbkjiekkaaMixed
import Derived.Test.YtfkhfkbkjiekkaaLawStable
namespace Go.Proofs.Ytfkhfkbkjiekkaa
open Go.RowKit Go.Sort

theorem ordered_rank {rk : Array Int} {l : List (Int × Int)} (h : Ordered (gtR rk) l) : upOk rk l.toArray 1 (l.toArray.size - 1) = true := by
  refine (upOk_iff rk l.toArray (l.toArray.size - 1) 0).2 fun j hj => ?_
  have h1 : j + 1 < l.length := by simp at hj; omega
  have := List.pairwise_iff_getElem.1 h j (j + 1) (by omega) h1 (by omega)
  rw [getElem!_pos _ (0 + j + 1) (by simp; omega), getElem!_pos _ (0 + j) (by simp; omega)]
  unfold gtR at this
  simp only [Nat.zero_add, List.getElem_toArray]
  simpa using this

theorem mem_get {l : List (Int × Int)} {d : Array (Int × Int)} (hp : l.Perm d.toList) {P : Int × Int → Prop} (h : ∀ i, i < d.size → P d[i]!) : ∀ i, i < l.toArray.size → P l.toArray[i]! := by
  intro i hi
  rw [getElem!_pos _ i hi]
  have hm : l.toArray[i] ∈ l := by simp
  obtain ⟨j, hj, e⟩ := List.mem_iff_getElem.1 (hp.mem_iff.1 hm)
  rw [← e]
  have := h j (by simpa using hj)
  rwa [getElem!_pos d j (by simpa using hj)] at this

set_option maxHeartbeats 1000000 in
theorem lawSorted_any (p q : Option Addr) (cap cap' : Nat) (d : Array (Int × Int)) (rk : Array Int) (w : World) (hI : Items w p d) (hR : Ints w q rk) (wf : ∀ i, i < d.size → (Lit.int .i64 d[i]!.1).wf = true ∧ (Lit.int .i64 d[i]!.2).wf = true) :
    Calls Try.prog 9 #[.slice p d.size cap, .slice q rk.size cap'] w fun e w' => e = .returned (.bool true) ∧ Below w.heap.size w w' := by
  by_cases h1 : 2147483647 < (d.size : Int)
  · go_enter Try.func9, Try.ntmps9
    go_wp2
    go_ret
    exact ⟨rfl, Below.refl _ _⟩
  · by_cases h2 : 2147483647 < (rk.size : Int)
    · go_enter Try.func9, Try.ntmps9
      go_wp2
      go_ret
      exact ⟨rfl, Below.refl _ _⟩
    · have hw := well_any p q cap cap' d rk.size w hI (by omega) (by omega)
      have HWF := hidden wf
      clear wf
      go_enter Try.func9, Try.ntmps9
      go_wp2_with fail
      refine hw.mono ?_
      rintro e w1 ⟨ok, rfl, hok, hg⟩
      cases ok with
      | false =>
        go_wp2
        go_ret
        exact ⟨rfl, hg.below⟩
      | true =>
        have hk := hok.1 rfl
        have c28 := hidden (implSortFunc_any p q cap cap' d w1 (hI.gr hg) (hR.gr hg) hk.1 hk.2.1)
        have HK := hidden hk
        clear hok hw hk
        go_wp2_with fail
        refine c28.out.mono ?_
        rintro e w2 ⟨r2, k2, rfl, ⟨l, hl, hp, ho, i2⟩, b2⟩
        have hls : l.toArray.size = d.size := by simpa using hl
        have HLS := hidden hls
        have HP := hidden hp
        have HO := hidden ho
        have c29 := hidden (mixed_any r2 p k2 cap l.toArray d w2 i2 ((hI.gr hg).below b2) (by simpa using hp) (by rw [hls]; exact HK.out.2.1) (mem_get (P := fun x => (Lit.int .i64 x.1).wf = true ∧ (Lit.int .i64 x.2).wf = true) hp HWF.out) HWF.out)
        have I2 := hidden i2
        rw [hls] at c29
        clear hp ho hl hls i2 c28
        go_wp2_with fail
        refine c29.out.mono ?_
        rintro e w3 ⟨rfl, b3⟩
        have c14 := inOrder_any r2 q k2 cap' l.toArray rk w3 ((I2.out.below (below_less b3 (Nat.le_refl _)))) (((hR.gr hg).below b2).below b3) (mem_get (P := fun x => 0 ≤ x.1 ∧ x.1 < (rk.size : Int)) HP.out HK.out.1) (by rw [HLS.out]; omega)
        rw [ordered_rank HO.out, HLS.out] at c14
        have C14 := hidden c14
        clear c14 c29
        go_wp2_with fail
        refine C14.out.mono ?_
        rintro e w4 ⟨rfl, b4⟩
        go_wp2
        go_ret
        exact ⟨rfl, (hg.below.trans ((below_less b2 hg.below.size).trans (below_less b3 (Nat.le_trans hg.below.size b2.size)))).trans b4.below⟩

end Go.Proofs.Ytfkhfkbkjiekkaa
