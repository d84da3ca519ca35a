/-
  The reference 'First': the first of the least, of the greatest items.
-/
import Derived.Test.YtfkhfkbkjiekkaaLeast
namespace Go.Proofs.Ytfkhfkbkjiekkaa
open Go.RowKit Go.Sort

set_option maxHeartbeats 2000000 in
set_option maxRecDepth 100000 in
theorem firstLeast_any (p q : Option Addr) (cap cap' : Nat) (d : Array (Int × Int)) (rk : Array Int) (w : World) (hI : Items w p d) (hR : Ints w q rk) (hK : Keyed d rk.size) (h0 : 0 < d.size) (hsz : d.size < 4611686018427387904) :
    Calls Try.prog 23 #[.slice p d.size cap, .slice q rk.size cap', .bool false] w fun e w' =>
      e = .returned (.agg #[.int .i64 (bestOf rk lower d d.size).1, .int .i64 (bestOf rk lower d d.size).2]) ∧ Gr w w' := by
  obtain ⟨b, off, rfl, hC⟩ := hI.at (i := 0) h0
  have hbw : b < w.heap.size := World.block_lt_of_cell? w _ (hC 0 h0).1
  have z1 : w.cell? ⟨b, off, none⟩ = some (.int .i64 d[0]!.1) := by simpa using (hC 0 h0).1
  have z2 : w.cell? ⟨b, off + 1, none⟩ = some (.int .i64 d[0]!.2) := by simpa using (hC 0 h0).2
  have kk := hK 0 h0
  obtain ⟨rb, ro, rfl, hRC⟩ := hR.at (i := d[0]!.1.toNat) (by omega)
  have hrw : rb < w.heap.size := World.block_lt_of_cell? w _ (hRC _ (by omega : d[0]!.1.toNat < rk.size))
  have HC := hidden hC
  have HR := hidden hRC
  clear hC hRC kk
  obtain ⟨x0, hx0⟩ : ∃ x, d[0]! = x := ⟨_, rfl⟩
  rw [hx0] at z1 z2
  have HX0 := hidden (show bestOf rk lower d 0 = x0 from hx0)
  clear hx0
  have i0 : (0 : Int) < (d.size : Int) := by omega
  go_enter Try.func23, Try.ntmps23
  go_wp2
  go_loopg [15] d.size (fun g vi wr => ∃ i : Nat, vi = .int .i64 i ∧ i ≤ d.size ∧ d.size - i ≤ g ∧ Gr w wr ∧ Box wr w.heap.size (0, 0) ∧ Box wr (w.heap.size + 1) (bestOf rk lower d i))
  case atStart =>
    refine ⟨0, rfl, Nat.zero_le _, by omega, ((Gr.refl _).alloc _).alloc _, ?_, ?_⟩
    · exact (Box.new w (0, 0)).gr ((Gr.refl _).alloc _)
    · rw [HX0.out]
      have := Box.new (w.alloc (.cells #[.int .i64 0, .int .i64 0] 34)) x0
      rwa [World.size_alloc] at this
  case round =>
    obtain ⟨i, rfl, hi2, hg, hG, hB0, hB1⟩ := hrel
    by_cases hlt : i < d.size
    · have k1 := hK i hlt
      obtain ⟨j, hj, hbj⟩ := bestOf_mem rk lower d i (by omega) h0
      have k2 := hK j hj
      rw [← hbj] at k2
      have hstep : bestOf rk lower d (i + 1) = if lower (rankOf rk d[i]!) (rankOf rk (bestOf rk lower d i)) then d[i]! else bestOf rk lower d i := rfl
      have l1 := hG.kept (HC.out i hlt).1
      have l2 := hG.kept (HC.out i hlt).2
      have m1 := hG.kept (HR.out d[i]!.1.toNat (by omega))
      have m2 := hG.kept (HR.out (bestOf rk lower d i).1.toNat (by omega))
      change _ = some (Value.int .i64 (rankOf rk d[i]!)) at m1
      change _ = some (Value.int .i64 (rankOf rk (bestOf rk lower d i))) at m2
      have HS := hidden hstep
      clear hstep hbj
      generalize d[i]! = x at l1 l2 k1 HS m1
      generalize bestOf rk lower d i = y at k2 HS hB1 m2
      have hws := hG.size
      have hbl := hB1.lt
      have hBX := Box.new wr x
      have hBY := hidden (hB1.gr ((Gr.refl wr).alloc (.cells #[.int .i64 x.1, .int .i64 x.2] 34)))
      have hBZ := hidden (hB0.gr ((Gr.refl wr).alloc (.cells #[.int .i64 x.1, .int .i64 x.2] 34)))
      have HBX := hidden hBX
      clear hBX
      obtain ⟨b1, b2, b3, b4⟩ := hB1
      obtain ⟨a1, a2⟩ := k1
      obtain ⟨c1, c2⟩ := k2
      have p1 : (i : Int) < (d.size : Int) := by omega
      have hr1 : rb < wr.heap.size := by omega
      have hr2 : b < wr.heap.size := by omega
      by_cases hv : rankOf rk x < rankOf rk y
      · have hl : lower (rankOf rk x) (rankOf rk y) = true := decide_eq_true hv
        have HL := hidden hl
        clear hl
        go_wp2_with fail
        go_quiet (fail)
        go_wp2
        go_roundg (d.size - (i + 1))
        case measure => omega
        case rel =>
          refine ⟨i + 1, by go_num, by omega, by omega, (((hG.alloc _).drewN _).setNew _ _ _ (by omega)).setNew _ _ _ (by omega), ((hBZ.out.gr ((Gr.refl _).drewN _)).other (by omega) _ _).other (by omega) _ _, ?_⟩
          rw [HS.out, HL.out, if_pos rfl]
          exact (hBY.out.gr ((Gr.refl _).drewN _)).set x
      · have hl : lower (rankOf rk x) (rankOf rk y) = false := decide_eq_false hv
        have HL := hidden hl
        have hd : decide (rankOf rk x < rankOf rk y) = false := decide_eq_false hv
        clear hl
        go_wp2_with fail
        go_quiet (fail)
        go_wp2
        go_roundg (d.size - (i + 1))
        case measure => omega
        case rel =>
          refine ⟨i + 1, by go_num, by omega, by omega, (hG.alloc _).drewN _, hBZ.out.gr ((Gr.refl _).drewN _), ?_⟩
          rw [HS.out, HL.out, if_neg (by simp)]
          exact hBY.out.gr ((Gr.refl _).drewN _)
    · obtain rfl : i = d.size := by omega
      obtain ⟨y, hy⟩ : ∃ y, bestOf rk lower d d.size = y := ⟨_, rfl⟩
      rw [hy] at hB1
      have HY := hidden hy
      have hfin := hB0.set y
      obtain ⟨f1, f2, _, _⟩ := hfin
      have F1 := hidden f1
      have F2 := hidden f2
      clear hy f1 f2
      obtain ⟨b1, b2, b3, b4⟩ := hB1
      obtain ⟨a1, a2, a3, a4⟩ := hB0
      go_wp2
      have f1 := F1.out
      have f2 := F2.out
      refine bodyPost_ret (v := .agg #[.int .i64 y.1, .int .i64 y.2]) (by simp [results, Try.results23, go_sem, f1, f2]) rfl ⟨by rw [HY.out], (hG.setNew _ _ _ (Nat.le_refl _)).setNew _ _ _ (Nat.le_refl _)⟩

set_option maxHeartbeats 2000000 in
set_option maxRecDepth 100000 in
theorem firstMost_any (p q : Option Addr) (cap cap' : Nat) (d : Array (Int × Int)) (rk : Array Int) (w : World) (hI : Items w p d) (hR : Ints w q rk) (hK : Keyed d rk.size) (h0 : 0 < d.size) (hsz : d.size < 4611686018427387904) :
    Calls Try.prog 23 #[.slice p d.size cap, .slice q rk.size cap', .bool true] w fun e w' =>
      e = .returned (.agg #[.int .i64 (bestOf rk higher d d.size).1, .int .i64 (bestOf rk higher d d.size).2]) ∧ Gr w w' := by
  obtain ⟨b, off, rfl, hC⟩ := hI.at (i := 0) h0
  have hbw : b < w.heap.size := World.block_lt_of_cell? w _ (hC 0 h0).1
  have z1 : w.cell? ⟨b, off, none⟩ = some (.int .i64 d[0]!.1) := by simpa using (hC 0 h0).1
  have z2 : w.cell? ⟨b, off + 1, none⟩ = some (.int .i64 d[0]!.2) := by simpa using (hC 0 h0).2
  have kk := hK 0 h0
  obtain ⟨rb, ro, rfl, hRC⟩ := hR.at (i := d[0]!.1.toNat) (by omega)
  have hrw : rb < w.heap.size := World.block_lt_of_cell? w _ (hRC _ (by omega : d[0]!.1.toNat < rk.size))
  have HC := hidden hC
  have HR := hidden hRC
  clear hC hRC kk
  obtain ⟨x0, hx0⟩ : ∃ x, d[0]! = x := ⟨_, rfl⟩
  rw [hx0] at z1 z2
  have HX0 := hidden (show bestOf rk higher d 0 = x0 from hx0)
  clear hx0
  have i0 : (0 : Int) < (d.size : Int) := by omega
  go_enter Try.func23, Try.ntmps23
  go_wp2
  go_loopg [15] d.size (fun g vi wr => ∃ i : Nat, vi = .int .i64 i ∧ i ≤ d.size ∧ d.size - i ≤ g ∧ Gr w wr ∧ Box wr w.heap.size (0, 0) ∧ Box wr (w.heap.size + 1) (bestOf rk higher d i))
  case atStart =>
    refine ⟨0, rfl, Nat.zero_le _, by omega, ((Gr.refl _).alloc _).alloc _, ?_, ?_⟩
    · exact (Box.new w (0, 0)).gr ((Gr.refl _).alloc _)
    · rw [HX0.out]
      have := Box.new (w.alloc (.cells #[.int .i64 0, .int .i64 0] 34)) x0
      rwa [World.size_alloc] at this
  case round =>
    obtain ⟨i, rfl, hi2, hg, hG, hB0, hB1⟩ := hrel
    by_cases hlt : i < d.size
    · have k1 := hK i hlt
      obtain ⟨j, hj, hbj⟩ := bestOf_mem rk higher d i (by omega) h0
      have k2 := hK j hj
      rw [← hbj] at k2
      have hstep : bestOf rk higher d (i + 1) = if higher (rankOf rk d[i]!) (rankOf rk (bestOf rk higher d i)) then d[i]! else bestOf rk higher d i := rfl
      have l1 := hG.kept (HC.out i hlt).1
      have l2 := hG.kept (HC.out i hlt).2
      have m1 := hG.kept (HR.out d[i]!.1.toNat (by omega))
      have m2 := hG.kept (HR.out (bestOf rk higher d i).1.toNat (by omega))
      change _ = some (Value.int .i64 (rankOf rk d[i]!)) at m1
      change _ = some (Value.int .i64 (rankOf rk (bestOf rk higher d i))) at m2
      have HS := hidden hstep
      clear hstep hbj
      generalize d[i]! = x at l1 l2 k1 HS m1
      generalize bestOf rk higher d i = y at k2 HS hB1 m2
      have hws := hG.size
      have hbl := hB1.lt
      have hBX := Box.new wr x
      have hBY := hidden (hB1.gr ((Gr.refl wr).alloc (.cells #[.int .i64 x.1, .int .i64 x.2] 34)))
      have hBZ := hidden (hB0.gr ((Gr.refl wr).alloc (.cells #[.int .i64 x.1, .int .i64 x.2] 34)))
      have HBX := hidden hBX
      clear hBX
      obtain ⟨b1, b2, b3, b4⟩ := hB1
      obtain ⟨a1, a2⟩ := k1
      obtain ⟨c1, c2⟩ := k2
      have p1 : (i : Int) < (d.size : Int) := by omega
      have hr1 : rb < wr.heap.size := by omega
      have hr2 : b < wr.heap.size := by omega
      by_cases hv : rankOf rk y < rankOf rk x
      · have hl : higher (rankOf rk x) (rankOf rk y) = true := decide_eq_true hv
        have HL := hidden hl
        clear hl
        go_wp2_with fail
        go_quiet (fail)
        go_wp2
        go_roundg (d.size - (i + 1))
        case measure => omega
        case rel =>
          refine ⟨i + 1, by go_num, by omega, by omega, (((hG.alloc _).drewN _).setNew _ _ _ (by omega)).setNew _ _ _ (by omega), ((hBZ.out.gr ((Gr.refl _).drewN _)).other (by omega) _ _).other (by omega) _ _, ?_⟩
          rw [HS.out, HL.out, if_pos rfl]
          exact (hBY.out.gr ((Gr.refl _).drewN _)).set x
      · have hl : higher (rankOf rk x) (rankOf rk y) = false := decide_eq_false hv
        have HL := hidden hl
        have hd : decide (rankOf rk y < rankOf rk x) = false := decide_eq_false hv
        clear hl
        go_wp2_with fail
        go_quiet (fail)
        go_wp2
        go_roundg (d.size - (i + 1))
        case measure => omega
        case rel =>
          refine ⟨i + 1, by go_num, by omega, by omega, (hG.alloc _).drewN _, hBZ.out.gr ((Gr.refl _).drewN _), ?_⟩
          rw [HS.out, HL.out, if_neg (by simp)]
          exact hBY.out.gr ((Gr.refl _).drewN _)
    · obtain rfl : i = d.size := by omega
      obtain ⟨y, hy⟩ : ∃ y, bestOf rk higher d d.size = y := ⟨_, rfl⟩
      rw [hy] at hB1
      have HY := hidden hy
      have hfin := hB0.set y
      obtain ⟨f1, f2, _, _⟩ := hfin
      have F1 := hidden f1
      have F2 := hidden f2
      clear hy f1 f2
      obtain ⟨b1, b2, b3, b4⟩ := hB1
      obtain ⟨a1, a2, a3, a4⟩ := hB0
      go_wp2
      have f1 := F1.out
      have f2 := F2.out
      refine bodyPost_ret (v := .agg #[.int .i64 y.1, .int .i64 y.2]) (by simp [results, Try.results23, go_sem, f1, f2]) rfl ⟨by rw [HY.out], (hG.setNew _ _ _ (Nat.le_refl _)).setNew _ _ _ (Nat.le_refl _)⟩

end Go.Proofs.Ytfkhfkbkjiekkaa
