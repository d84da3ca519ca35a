/-
  The median of three, in both families: what is chosen lies in the range.
-/
import Derived.Test.YtfkhfkbkjiekkaaKitO
import Derived.BigRegion
import Derived.Sort.WalkB2
import Derived.Sort.WalkB3
import Derived.Sort.WalkA6
import Derived.Deep.CutRange
import Derived.Deep.CutBlock
namespace Go.Proofs.Ytfkhfkbkjiekkaa
open Go.RowKit Go.Sort

/-- a box of one's own that holds some number -/
def Bx (W : World) (c : Nat) : Prop := ∃ k : Int, W.cell? ⟨c, 0, none⟩ = some (.int .i64 k) ∧ W.frozen? ⟨c, 0, none⟩ = false
theorem Bx.gr {W W' : World} {c : Nat} (h : Bx W c) (g : Gr W W') : Bx W' c := by
  obtain ⟨k, h1, h2⟩ := h
  exact ⟨k, g.kept h1, (g.frozen (World.block_lt_of_cell? W _ h1)).trans h2⟩
theorem Bx.set {W : World} {c : Nat} (h : Bx W c) (k : Int) : Bx (W.setCell ⟨c, 0, none⟩ (.int .i64 k)) c := by
  obtain ⟨k0, h1, h2⟩ := h
  exact ⟨k, World.cell?_setCell_same _ _ _ h1, by rw [World.frozen?_setCell]; exact h2⟩

set_option maxHeartbeats 2000000 in
set_option maxRecDepth 1000000 in
theorem order2C {rk : Array Int} [Inhabited (It rk)] (B blk off cap : Nat) (w0 : World) (R : ∀ W, w0.grownBy W (some blk) → Ranks W B rk) (c : Nat) (hc0 : w0.heap.size ≤ c) (lo hi a b : Nat) (d : Array (It rk)) (w : World) (S : SC (fun x : It rk => x.1.1) w0 blk off d w) (hbx : Bx w c) (ha1 : lo ≤ a) (ha2 : a < hi) (hb1 : lo ≤ b) (hb2 : b < hi) (hhi : hi ≤ d.size) (hsz : d.size < 1152921504606846976) :
    Calls Try.prog 80 #[.slice (some ⟨blk, off, none⟩) d.size cap, .int .i64 a, .int .i64 b, .pointer (some ⟨c, 0, none⟩), .func (.func 43) #[] #[.pointer (some ⟨B, 0, none⟩)]] w fun e w' => ∃ i j : Nat, e = .returned (.tuple #[.int .i64 i, .int .i64 j]) ∧ lo ≤ i ∧ i < hi ∧ lo ≤ j ∧ j < hi ∧ SC (fun x : It rk => x.1.1) w0 blk off d w' ∧ Bx w' c := by
  have mixed : Try.prog.follows .mixedOrders = true := by kernel_rfl
  have e1 : ((b : Int)).toNat = b := by omega
  have p1 : (0 : Int) ≤ (b : Int) := by omega
  have b1 : (b : Int) < (d.size : Int) := by omega
  have r1 : IntKind.i64.wrap ((b : Int)) = (b : Int) := by rw [IntKind.wrap_i64]; omega
  have e2 : ((a : Int)).toNat = a := by omega
  have p2 : (0 : Int) ≤ (a : Int) := by omega
  have b2 : (a : Int) < (d.size : Int) := by omega
  have r2 : IntKind.i64.wrap ((a : Int)) = (a : Int) := by rw [IntKind.wrap_i64]; omega
  have k1 : b < d.size := by omega
  have k2 : a < d.size := by omega
  have HBX := hidden hbx
  clear hbx
  cases hlv : (ltR rk) d[b]! d[a]! with
  | true =>
    obtain ⟨cx, cy, cv, l1, l2, l3, l4, hc, hvi, SG⟩ := S.cmpAll R (b) (a) (by assumption) (by assumption)
    have hv : cv < 0 := hvi.2 hlv
    have hdv : decide (cv < 0) = true := decide_eq_true hv
    clear hvi
    go_enter Try.func80, Try.ntmps80
    go_wp2_with fail
    go_quiet_grown (first | (go_at_call 43; refine Calls.grown_of (hc _ _)))
    have S2 := hidden (SG.out nq osq)
    clear l1 l2 l3 l4 hc SG
    have HB2 := hidden (HBX.out.gr ((Gr.refl _).grow nq osq))
    generalize grow (w.drewN nq) osq = w2 at S2 HB2 ⊢
    have hbx := HB2.out
    obtain ⟨k, c1, c2⟩ := hbx
    have H3 := hidden (S2.out.setNew c 0 (.int .i64 (wrap64 (k + 1))) hc0)
    have H4 := hidden (HB2.out.set (wrap64 (k + 1)))
    clear hlv HBX S2 HB2 S
    go_wp2
    go_ret2
    exact ⟨b, a, rfl, hb1, hb2, ha1, ha2, H3.out, H4.out⟩
  | false =>
    obtain ⟨cx, cy, cv, l1, l2, l3, l4, hc, hvi, SG⟩ := S.cmpAll R (b) (a) (by assumption) (by assumption)
    have hv : ¬ cv < 0 := fun e => by rw [hvi.1 e] at hlv; cases hlv
    have hdv : decide (cv < 0) = false := decide_eq_false hv
    clear hvi
    go_enter Try.func80, Try.ntmps80
    go_wp2_with fail
    go_quiet_grown (first | (go_at_call 43; refine Calls.grown_of (hc _ _)))
    have S2 := hidden (SG.out nq osq)
    clear l1 l2 l3 l4 hc SG
    have HB2 := hidden (HBX.out.gr ((Gr.refl _).grow nq osq))
    generalize grow (w.drewN nq) osq = w2 at S2 HB2 ⊢
    clear hlv HBX S
    go_wp2
    go_ret2
    exact ⟨a, b, rfl, ha1, ha2, hb1, hb2, S2.out, HB2.out⟩

set_option maxHeartbeats 2000000 in
set_option maxRecDepth 1000000 in
theorem medianC {rk : Array Int} [Inhabited (It rk)] (B blk off cap : Nat) (w0 : World) (R : ∀ W, w0.grownBy W (some blk) → Ranks W B rk) (c : Nat) (hc0 : w0.heap.size ≤ c) (lo hi a b m : Nat) (d : Array (It rk)) (w : World) (S : SC (fun x : It rk => x.1.1) w0 blk off d w) (hbx : Bx w c) (ha1 : lo ≤ a) (ha2 : a < hi) (hb1 : lo ≤ b) (hb2 : b < hi) (hm1 : lo ≤ m) (hm2 : m < hi) (hhi : hi ≤ d.size) (hsz : d.size < 1152921504606846976) :
    Calls Try.prog 75 #[.slice (some ⟨blk, off, none⟩) d.size cap, .int .i64 a, .int .i64 b, .int .i64 m, .pointer (some ⟨c, 0, none⟩), .func (.func 43) #[] #[.pointer (some ⟨B, 0, none⟩)]] w fun e w' => ∃ i : Nat, e = .returned (.int .i64 i) ∧ lo ≤ i ∧ i < hi ∧ SC (fun x : It rk => x.1.1) w0 blk off d w' ∧ Bx w' c := by
  have C := hidden (fun a b W S hbx h1 h2 h3 h4 => order2C B blk off cap w0 R c hc0 lo hi a b d W S hbx h1 h2 h3 h4 hhi hsz)
  go_enter Try.func75, Try.ntmps75
  go_wp2_with fail
  refine (C.out a b _ S hbx ha1 ha2 hb1 hb2).mono ?_
  rintro e w1 ⟨i1, j1, rfl, q1, q2, q3, q4, S1, B1⟩
  clear S hbx
  go_wp2_with fail
  refine (C.out j1 m _ S1 B1 q3 q4 hm1 hm2).mono ?_
  rintro e w2 ⟨i2, j2, rfl, q5, q6, q7, q8, S2, B2⟩
  clear S1 B1
  go_wp2_with fail
  refine (C.out i1 i2 _ S2 B2 q1 q2 q5 q6).mono ?_
  rintro e w3 ⟨i3, j3, rfl, q9, q10, q11, q12, S3, B3⟩
  clear S2 B2 C
  have HS := hidden S3
  have HB := hidden B3
  clear S3 B3
  go_wp2
  go_ret
  exact ⟨j3, rfl, q11, q12, HS.out, HB.out⟩

set_option maxHeartbeats 2000000 in
set_option maxRecDepth 1000000 in
theorem medianAdjacentC {rk : Array Int} [Inhabited (It rk)] (B blk off cap : Nat) (w0 : World) (R : ∀ W, w0.grownBy W (some blk) → Ranks W B rk) (c : Nat) (hc0 : w0.heap.size ≤ c) (lo hi a : Nat) (d : Array (It rk)) (w : World) (S : SC (fun x : It rk => x.1.1) w0 blk off d w) (hbx : Bx w c) (ha1 : lo < a) (ha2 : a + 1 < hi) (hhi : hi ≤ d.size) (hsz : d.size < 1152921504606846976) :
    Calls Try.prog 74 #[.slice (some ⟨blk, off, none⟩) d.size cap, .int .i64 a, .pointer (some ⟨c, 0, none⟩), .func (.func 43) #[] #[.pointer (some ⟨B, 0, none⟩)]] w fun e w' => ∃ i : Nat, e = .returned (.int .i64 i) ∧ lo ≤ i ∧ i < hi ∧ SC (fun x : It rk => x.1.1) w0 blk off d w' ∧ Bx w' c := by
  have hm := medianC B blk off cap w0 R c hc0 lo hi (a - 1) a (a + 1) d w S hbx (by omega) (by omega) (by omega) (by omega) (by omega) ha2 hhi hsz
  have z1 : ((a - 1 : Nat) : Int) = (a : Int) - 1 := by omega
  rw [z1, Int.natCast_add] at hm
  have HM := hidden hm
  clear hm z1 hbx S
  go_enter Try.func74, Try.ntmps74
  go_wp2_with fail
  refine HM.out.mono ?_
  rintro e w1 ⟨i1, rfl, q1, q2, S1, B1⟩
  have HS := hidden S1
  have HB := hidden B1
  clear S1 B1 HM
  go_wp2
  go_ret
  exact ⟨i1, rfl, q1, q2, HS.out, HB.out⟩

set_option maxHeartbeats 2000000 in
set_option maxRecDepth 1000000 in
theorem order2O (blk off cap : Nat) (w0 : World) (c : Nat) (hc0 : w0.heap.size ≤ c) (lo hi a b : Nat) (d : Array (Int)) (w : World) (S : SO w0 blk off d w) (hbx : Bx w c) (ha1 : lo ≤ a) (ha2 : a < hi) (hb1 : lo ≤ b) (hb2 : b < hi) (hhi : hi ≤ d.size) (hsz : d.size < 1152921504606846976) :
    Calls Try.prog 81 #[.slice (some ⟨blk, off, none⟩) d.size cap, .int .i64 a, .int .i64 b, .pointer (some ⟨c, 0, none⟩)] w fun e w' => ∃ i j : Nat, e = .returned (.tuple #[.int .i64 i, .int .i64 j]) ∧ lo ≤ i ∧ i < hi ∧ lo ≤ j ∧ j < hi ∧ SO w0 blk off d w' ∧ Bx w' c := by
  have mixed : Try.prog.follows .mixedOrders = true := by kernel_rfl
  have e1 : ((b : Int)).toNat = b := by omega
  have p1 : (0 : Int) ≤ (b : Int) := by omega
  have b1 : (b : Int) < (d.size : Int) := by omega
  have r1 : IntKind.i64.wrap ((b : Int)) = (b : Int) := by rw [IntKind.wrap_i64]; omega
  have e2 : ((a : Int)).toNat = a := by omega
  have p2 : (0 : Int) ≤ (a : Int) := by omega
  have b2 : (a : Int) < (d.size : Int) := by omega
  have r2 : IntKind.i64.wrap ((a : Int)) = (a : Int) := by rw [IntKind.wrap_i64]; omega
  have k1 : b < d.size := by omega
  have k2 : a < d.size := by omega
  have HBX := hidden hbx
  clear hbx
  cases hlv : ltInt d[b]! d[a]! with
  | true =>
    obtain ⟨cx, cy, l1, l2, hvi, SG⟩ := S.cmpAll (b) (a) (by assumption) (by assumption)
    have hv : cx < cy := hvi.2 hlv
    have hdv : decide (cx < cy) = true := decide_eq_true hv
    clear hvi
    go_enter Try.func81, Try.ntmps81
    go_wp2_with fail
    go_quiet ((go_at_call 44; exact Calls.quiet_of_same (less_any _ _ _)))
    have S2 := hidden (SG.out nq)
    clear l1 l2 SG
    have HB2 := hidden (HBX.out.gr ((Gr.refl _).drewN nq))
    generalize w.drewN nq = w2 at S2 HB2 ⊢
    have hbx := HB2.out
    obtain ⟨k, c1, c2⟩ := hbx
    have H3 := hidden (S2.out.setNew c 0 (.int .i64 (wrap64 (k + 1))) hc0)
    have H4 := hidden (HB2.out.set (wrap64 (k + 1)))
    clear hlv HBX S2 HB2 S
    go_wp2
    go_ret2
    exact ⟨b, a, rfl, hb1, hb2, ha1, ha2, H3.out, H4.out⟩
  | false =>
    obtain ⟨cx, cy, l1, l2, hvi, SG⟩ := S.cmpAll (b) (a) (by assumption) (by assumption)
    have hv : ¬ cx < cy := fun e => by rw [hvi.1 e] at hlv; cases hlv
    have hdv : decide (cx < cy) = false := decide_eq_false hv
    clear hvi
    go_enter Try.func81, Try.ntmps81
    go_wp2_with fail
    go_quiet ((go_at_call 44; exact Calls.quiet_of_same (less_any _ _ _)))
    have S2 := hidden (SG.out nq)
    clear l1 l2 SG
    have HB2 := hidden (HBX.out.gr ((Gr.refl _).drewN nq))
    generalize w.drewN nq = w2 at S2 HB2 ⊢
    clear hlv HBX S
    go_wp2
    go_ret2
    exact ⟨a, b, rfl, ha1, ha2, hb1, hb2, S2.out, HB2.out⟩

set_option maxHeartbeats 2000000 in
set_option maxRecDepth 1000000 in
theorem medianO (blk off cap : Nat) (w0 : World) (c : Nat) (hc0 : w0.heap.size ≤ c) (lo hi a b m : Nat) (d : Array (Int)) (w : World) (S : SO w0 blk off d w) (hbx : Bx w c) (ha1 : lo ≤ a) (ha2 : a < hi) (hb1 : lo ≤ b) (hb2 : b < hi) (hm1 : lo ≤ m) (hm2 : m < hi) (hhi : hi ≤ d.size) (hsz : d.size < 1152921504606846976) :
    Calls Try.prog 78 #[.slice (some ⟨blk, off, none⟩) d.size cap, .int .i64 a, .int .i64 b, .int .i64 m, .pointer (some ⟨c, 0, none⟩)] w fun e w' => ∃ i : Nat, e = .returned (.int .i64 i) ∧ lo ≤ i ∧ i < hi ∧ SO w0 blk off d w' ∧ Bx w' c := by
  have C := hidden (fun a b W S hbx h1 h2 h3 h4 => order2O blk off cap w0 c hc0 lo hi a b d W S hbx h1 h2 h3 h4 hhi hsz)
  go_enter Try.func78, Try.ntmps78
  go_wp2_with fail
  refine (C.out a b _ S hbx ha1 ha2 hb1 hb2).mono ?_
  rintro e w1 ⟨i1, j1, rfl, q1, q2, q3, q4, S1, B1⟩
  clear S hbx
  go_wp2_with fail
  refine (C.out j1 m _ S1 B1 q3 q4 hm1 hm2).mono ?_
  rintro e w2 ⟨i2, j2, rfl, q5, q6, q7, q8, S2, B2⟩
  clear S1 B1
  go_wp2_with fail
  refine (C.out i1 i2 _ S2 B2 q1 q2 q5 q6).mono ?_
  rintro e w3 ⟨i3, j3, rfl, q9, q10, q11, q12, S3, B3⟩
  clear S2 B2 C
  have HS := hidden S3
  have HB := hidden B3
  clear S3 B3
  go_wp2
  go_ret
  exact ⟨j3, rfl, q11, q12, HS.out, HB.out⟩

set_option maxHeartbeats 2000000 in
set_option maxRecDepth 1000000 in
theorem medianAdjacentO (blk off cap : Nat) (w0 : World) (c : Nat) (hc0 : w0.heap.size ≤ c) (lo hi a : Nat) (d : Array (Int)) (w : World) (S : SO w0 blk off d w) (hbx : Bx w c) (ha1 : lo < a) (ha2 : a + 1 < hi) (hhi : hi ≤ d.size) (hsz : d.size < 1152921504606846976) :
    Calls Try.prog 77 #[.slice (some ⟨blk, off, none⟩) d.size cap, .int .i64 a, .pointer (some ⟨c, 0, none⟩)] w fun e w' => ∃ i : Nat, e = .returned (.int .i64 i) ∧ lo ≤ i ∧ i < hi ∧ SO w0 blk off d w' ∧ Bx w' c := by
  have hm := medianO blk off cap w0 c hc0 lo hi (a - 1) a (a + 1) d w S hbx (by omega) (by omega) (by omega) (by omega) (by omega) ha2 hhi hsz
  have z1 : ((a - 1 : Nat) : Int) = (a : Int) - 1 := by omega
  rw [z1, Int.natCast_add] at hm
  have HM := hidden hm
  clear hm z1 hbx S
  go_enter Try.func77, Try.ntmps77
  go_wp2_with fail
  refine HM.out.mono ?_
  rintro e w1 ⟨i1, rfl, q1, q2, S1, B1⟩
  have HS := hidden S1
  have HB := hidden B1
  clear S1 B1 HM
  go_wp2
  go_ret
  exact ⟨i1, rfl, q1, q2, HS.out, HB.out⟩

end Go.Proofs.Ytfkhfkbkjiekkaa
