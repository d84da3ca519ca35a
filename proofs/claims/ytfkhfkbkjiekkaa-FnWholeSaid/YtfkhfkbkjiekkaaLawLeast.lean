/-
  FnExactLeast, walked: 'Least' and 'Most' answer as the reference does.
-/
import Derived.Test.YtfkhfkbkjiekkaaFirst
namespace Go.Proofs.Ytfkhfkbkjiekkaa
open Go.RowKit Go.Sort

set_option maxHeartbeats 1000000 in
theorem implLeast_any (p q : Option Addr) (cap cap' : Nat) (d : Array (Int × Int)) (rk : Array Int) (w : World) (hI : Items w p d) (hR : Ints w q rk) (hK : Keyed d rk.size) (h0 : 0 < d.size) (hsz : d.size < 4611686018427387904) :
    Calls Try.prog 22 #[.slice p d.size cap, .slice q rk.size cap'] w fun e w' =>
      e = .returned (.agg #[.int .i64 (bestOf rk lower d d.size).1, .int .i64 (bestOf rk lower d d.size).2]) ∧ Gr w w' := by
  have g1 : Gr w (w.alloc (.cells #[.int .i64 0, .int .i64 0] 34)) := (Gr.refl _).alloc _
  have h38 := minFunc_any p cap (w.heap.size + 1) d rk ((w.alloc (.cells #[.int .i64 0, .int .i64 0] 34)).alloc (.cells #[.slice q rk.size cap'] 23)) (hI.gr (g1.alloc _)) (by have := ranks_boxed (hR.gr g1) cap'; rwa [World.size_alloc] at this) hK h0 hsz
  have hB := (Box.new w (0, 0)).gr ((Gr.refl _).alloc (.cells #[.slice q rk.size cap'] 23))
  generalize bestOf rk lower d d.size = y at h38 ⊢
  go_enter Try.func22, Try.ntmps22
  go_wp2_with fail
  refine (order_any _ _ _ _).mono ?_
  rintro e w1 ⟨rfl, rfl⟩
  go_wp2_with fail
  refine h38.mono ?_
  rintro e w2 ⟨rfl, hg⟩
  have hB2 := hB.gr hg
  obtain ⟨f1, f2, _, _⟩ := hB2.set y
  have F1 := hidden f1
  have F2 := hidden f2
  clear f1 f2 hB h38
  obtain ⟨a1, a2, a3, a4⟩ := hB2
  have hgw := hidden ((g1.alloc _).trans hg)
  go_wp2
  have f1 := F1.out
  have f2 := F2.out
  refine bodyPost_ret (v := .agg #[.int .i64 y.1, .int .i64 y.2]) (by simp [results, Try.results22, go_sem, f1, f2]) rfl ⟨rfl, (hgw.out.setNew _ _ _ (Nat.le_refl _)).setNew _ _ _ (Nat.le_refl _)⟩

set_option maxHeartbeats 1000000 in
theorem implMost_any (p q : Option Addr) (cap cap' : Nat) (d : Array (Int × Int)) (rk : Array Int) (w : World) (hI : Items w p d) (hR : Ints w q rk) (hK : Keyed d rk.size) (h0 : 0 < d.size) (hsz : d.size < 4611686018427387904) :
    Calls Try.prog 24 #[.slice p d.size cap, .slice q rk.size cap'] w fun e w' =>
      e = .returned (.agg #[.int .i64 (bestOf rk higher d d.size).1, .int .i64 (bestOf rk higher d d.size).2]) ∧ Gr w w' := by
  have g1 : Gr w (w.alloc (.cells #[.int .i64 0, .int .i64 0] 34)) := (Gr.refl _).alloc _
  have h38 := maxFunc_any p cap (w.heap.size + 1) d rk ((w.alloc (.cells #[.int .i64 0, .int .i64 0] 34)).alloc (.cells #[.slice q rk.size cap'] 23)) (hI.gr (g1.alloc _)) (by have := ranks_boxed (hR.gr g1) cap'; rwa [World.size_alloc] at this) hK h0 hsz
  have hB := (Box.new w (0, 0)).gr ((Gr.refl _).alloc (.cells #[.slice q rk.size cap'] 23))
  generalize bestOf rk higher d d.size = y at h38 ⊢
  go_enter Try.func24, Try.ntmps24
  go_wp2_with fail
  refine (order_any _ _ _ _).mono ?_
  rintro e w1 ⟨rfl, rfl⟩
  go_wp2_with fail
  refine h38.mono ?_
  rintro e w2 ⟨rfl, hg⟩
  have hB2 := hB.gr hg
  obtain ⟨f1, f2, _, _⟩ := hB2.set y
  have F1 := hidden f1
  have F2 := hidden f2
  clear f1 f2 hB h38
  obtain ⟨a1, a2, a3, a4⟩ := hB2
  have hgw := hidden ((g1.alloc _).trans hg)
  go_wp2
  have f1 := F1.out
  have f2 := F2.out
  refine bodyPost_ret (v := .agg #[.int .i64 y.1, .int .i64 y.2]) (by simp [results, Try.results24, go_sem, f1, f2]) rfl ⟨rfl, (hgw.out.setNew _ _ _ (Nat.le_refl _)).setNew _ _ _ (Nat.le_refl _)⟩

set_option maxHeartbeats 1000000 in
theorem lawLeast_any (p q : Option Addr) (cap cap' : Nat) (d : Array (Int × Int)) (rk : Array Int) (w : World) (hI : Items w p d) (hR : Ints w q rk) :
    Calls Try.prog 7 #[.slice p d.size cap, .slice q rk.size cap'] w fun e w' => e = .returned (.bool true) ∧ Gr w w' := by
  by_cases h1 : 2147483647 < (d.size : Int)
  · go_enter Try.func7, Try.ntmps7
    go_wp2
    go_ret
    exact ⟨rfl, Gr.refl _⟩
  · by_cases h2 : 2147483647 < (rk.size : Int)
    · go_enter Try.func7, Try.ntmps7
      go_wp2
      go_ret
      exact ⟨rfl, Gr.refl _⟩
    · have hw := well_any p q cap cap' d rk.size w hI (by omega) (by omega)
      go_enter Try.func7, Try.ntmps7
      go_wp2_with fail
      refine hw.mono ?_
      rintro e w1 ⟨ok, rfl, hok, hg⟩
      cases ok with
      | false =>
        go_wp2
        go_ret
        exact ⟨rfl, hg⟩
      | true =>
        have hk := hok.1 rfl
        clear hok hw
        by_cases h0 : 0 < d.size
        · have hz : ((d.size : Int) == 0) = false := by rw [beq_eq_false_iff_ne]; omega
          have c22 := fun W (g : Gr w1 W) => implLeast_any p q cap cap' d rk W ((hI.gr hg).gr g) ((hR.gr hg).gr g) hk.1 h0 (by omega)
          have c23 := fun W (g : Gr w1 W) => firstLeast_any p q cap cap' d rk W ((hI.gr hg).gr g) ((hR.gr hg).gr g) hk.1 h0 (by omega)
          have c24 := fun W (g : Gr w1 W) => implMost_any p q cap cap' d rk W ((hI.gr hg).gr g) ((hR.gr hg).gr g) hk.1 h0 (by omega)
          have c25 := fun W (g : Gr w1 W) => firstMost_any p q cap cap' d rk W ((hI.gr hg).gr g) ((hR.gr hg).gr g) hk.1 h0 (by omega)
          generalize bestOf rk lower d d.size = x at c22 c23
          generalize bestOf rk higher d d.size = y at c24 c25
          have C := hidden (And.intro c22 (And.intro c23 (And.intro c24 c25)))
          clear c22 c23 c24 c25
          go_wp2_with fail
          refine (C.out.1 _ (Gr.refl _)).mono ?_
          rintro e w2 ⟨rfl, hg2⟩
          go_wp2_with fail
          refine (C.out.2.1 _ hg2).mono ?_
          rintro e w3 ⟨rfl, hg3⟩
          go_wp2_with fail
          refine (C.out.2.2.1 _ (hg2.trans hg3)).mono ?_
          rintro e w4 ⟨rfl, hg4⟩
          go_wp2_with fail
          refine (C.out.2.2.2 _ ((hg2.trans hg3).trans hg4)).mono ?_
          rintro e w5 ⟨rfl, hg5⟩
          go_wp2
          go_ret
          exact ⟨rfl, (((hg.trans hg2).trans hg3).trans hg4).trans hg5⟩
        · have hz : ((d.size : Int) == 0) = true := by rw [beq_iff_eq]; omega
          go_wp2
          go_ret
          exact ⟨rfl, hg⟩

end Go.Proofs.Ytfkhfkbkjiekkaa
