/-
  The partial insertion sort, items.
-/
import Derived.Test.YtfkhfkbkjiekkaaKitO
import Derived.Test.YtfkhfkbkjiekkaaShifts
import Derived.BigRegion
import Derived.Sort.WalkB2
import Derived.Sort.WalkB3
import Derived.Sort.WalkA6
import Derived.Deep.CutRange
import Derived.Deep.CutBlock
namespace Go.Proofs.Ytfkhfkbkjiekkaa
open Go.RowKit Go.Sort

set_option maxHeartbeats 2000000 in
set_option maxRecDepth 1000000 in
theorem partialInsertionC {rk : Array Int} [Inhabited (It rk)] (B blk off cap : Nat) (w0 : World) (R : ∀ W, w0.grownBy W (some blk) → Ranks W B rk) (a b : Nat) (d : Array (It rk)) (w : World) (S : SC (fun x : It rk => x.1.1) w0 blk off d w) (hab : a < b) (hb : b ≤ d.size) (hsz : d.size < 1152921504606846976) :
    Calls Try.prog 57 #[.slice (some ⟨blk, off, none⟩) d.size cap, .int .i64 a, .int .i64 b, .func (.func 43) #[] #[.pointer (some ⟨B, 0, none⟩)]] w fun e w' => e = .returned (.bool (partialInsertionSort (ltR rk) d a b).2) ∧ SC (fun x : It rk => x.1.1) w0 blk off (partialInsertionSort (ltR rk) d a b).1 w' := by
  have mixed : Try.prog.follows .mixedOrders = true := by kernel_rfl
  go_enter Try.func57, Try.ntmps57
  go_wp2
  go_loopg [9, 10] 5 (fun g1 vi vs wr => ∃ (i s : Nat) (dk : Array (It rk)), vi = .int .i64 i ∧ vs = .int .i64 s ∧ s ≤ 5 ∧ 5 - s ≤ g1 ∧ a < i ∧ i ≤ b ∧ SC (fun x : It rk => x.1.1) w0 blk off dk wr ∧ Hid (dk.size = d.size) ∧ Hid (partialIns (ltR rk) a b (5 - s) i dk = partialIns (ltR rk) a b 5 (a + 1) d))
  case atStart => exact ⟨a + 1, 0, d, by go_num, by go_num, by omega, by omega, by omega, by omega, S, hidden rfl, hidden rfl⟩
  case round =>
    clear S
    obtain ⟨i, s, dk, rfl, rfl, hs5, hg1, hai, hib, S1, HSZ, HO⟩ := hrel
    by_cases hs' : s < 5
    · have hsz5 : (s : Int) < 5 := by omega
      go_wp2
      go_loopg [9] (b - i) (fun g2 vi wr2 => ∃ (kx : Nat), vi = .int .i64 kx ∧ i ≤ kx ∧ kx ≤ b ∧ b - kx ≤ g2 ∧ SC (fun x : It rk => x.1.1) w0 blk off dk wr2 ∧ Hid (scanSorted (ltR rk) dk b kx = scanSorted (ltR rk) dk b i))
      case atStart => exact ⟨i, rfl, Nat.le_refl _, hib, Nat.le_refl _, S1, hidden rfl⟩
      case round =>
        clear S1
        obtain ⟨kx, rfl, hik, hkb, hg2, S2, HSC⟩ := hrel
        obtain ⟨kp, rfl⟩ : ∃ kp, kx = kp + 1 := ⟨kx - 1, by omega⟩
        by_cases hkb' : kp + 1 < b
        · have hkz : (kp : Int) + 1 < (b : Int) := by omega
          have hkd : decide ((kp : Int) + 1 < (b : Int)) = true := decide_eq_true hkz
          have e1 : ((kp : Int) + 1).toNat = kp + 1 := by omega
          have p1 : (0 : Int) ≤ (kp : Int) + 1 := by omega
          have b1 : (kp : Int) + 1 < (d.size : Int) := by omega
          have r1 : IntKind.i64.wrap ((kp : Int) + 1) = (kp : Int) + 1 := by rw [IntKind.wrap_i64]; omega
          have e2 : ((kp : Int)).toNat = kp := by omega
          have p2 : (0 : Int) ≤ (kp : Int) := by omega
          have b2 : (kp : Int) < (d.size : Int) := by omega
          have r2 : IntKind.i64.wrap ((kp : Int)) = (kp : Int) := by rw [IntKind.wrap_i64]; omega
          have k1 : kp + 1 < dk.size := by rw [HSZ.out]; omega
          have k2 : kp < dk.size := by rw [HSZ.out]; omega
          cases hlv : (ltR rk) dk[kp + 1]! dk[kp]! with
          | false =>
            have HL := hidden hlv
            obtain ⟨cx, cy, cv, l1, l2, l3, l4, hc, hvi, SG⟩ := S2.cmpAll R (kp + 1) (kp) (by assumption) (by assumption)
            have hv : ¬ cv < 0 := fun e => by rw [hvi.1 e] at hlv; cases hlv
            have hdv : decide (cv < 0) = false := decide_eq_false hv
            clear hvi
            go_wp2_with fail
            go_quiet_grown (first | (go_at_call 43; refine Calls.grown_of (hc _ _)))
            have S3 := hidden (SG.out nq osq)
            clear l1 l2 l3 l4 hc SG
            generalize grow (wr.drewN nq) osq = w3 at S3 ⊢
            clear hv hdv hlv
            go_wp2
            go_roundg (b - (kp + 1 + 1))
            case measure => omega
            case rel => exact ⟨kp + 1 + 1, by go_num, by omega, by omega, Nat.le_refl _, S3.out, hidden ((scanSorted_go (ltR rk) dk b (kp + 1) hkb' HL.out).symm.trans HSC.out)⟩
          | true =>
            have HL := hidden hlv
            have HSK := hidden (HSC.out.symm.trans (scanSorted_stop (ltR rk) dk b (kp + 1) (Or.inr hlv)))
            obtain ⟨cx, cy, cv, l1, l2, l3, l4, hc, hvi, SG⟩ := S2.cmpAll R (kp + 1) (kp) (by assumption) (by assumption)
            have hv : cv < 0 := hvi.2 hlv
            have hdv : decide (cv < 0) = true := decide_eq_true hv
            clear hvi
            go_wp2_with fail
            go_quiet_grown (first | (go_at_call 43; refine Calls.grown_of (hc _ _)))
            have S3 := hidden (SG.out nq osq)
            clear l1 l2 l3 l4 hc SG
            generalize grow (wr.drewN nq) osq = w3 at S3 ⊢
            clear hv hdv hlv HSC
            have S3 := S3.out
            have heq : ((kp : Int) + 1 == (b : Int)) = false := by rw [beq_eq_false_iff_ne]; omega
            have heq' : ¬ (kp : Int) + 1 = (b : Int) := by omega
            by_cases h50 : b - a < 50
            · have h50z : (b : Int) - (a : Int) < 50 := by omega
              have hfin := pi_short (ltR rk) a b s i dk hs' (by rw [HSK.out]; omega) h50
              rw [HO.out] at hfin
              have HF := hidden hfin
              clear hfin
              go_wp2
              go_ret
              unfold partialInsertionSort
              rw [HF.out]
              exact ⟨rfl, S3⟩
            · have h50z : ¬ (b : Int) - (a : Int) < 50 := by omega
              have HGO := hidden (HO.out.symm.trans (pi_go (ltR rk) a b s i (kp + 1) dk hs' HSK.out (by omega) h50))
              have HD1 := hidden ((size_swp dk (kp + 1) kp).trans HSZ.out)
              have HFS : ∀ dz : Array (It rk), Hid (dz.size = d.size) → Hid ((fixDown (ltR rk) a (kp + 1) dz).size = d.size) := fun dz h => by
                show (fixDown (ltR rk) a (kp + 1) dz).size = d.size
                unfold fixDown
                split
                · rw [size_shiftDown]; exact h.out
                · exact h.out
              clear HO
              go_wp2_with fail
              obtain ⟨sx, sy, u2, u3, u4, l1, l2, l3, l4, f1, f2, f3, f4, g2, g3, g4, S4⟩ := S3.swapAll (kp + 1) (kp) (by assumption) (by assumption)
              clear S3
              go_wp2_with fail
              go_region
              clear l1 l2 l3 l4 f1 f2 f3 f4 g2 g3 g4
              generalize (World.drew _) = w4 at S4 ⊢
              have S4 := S4.out
              obtain ⟨d1, hd1⟩ : ∃ d1, d1 = swp dk (kp + 1) kp := ⟨_, rfl⟩
              rw [← hd1] at S4 HD1
              have HDD := hidden hd1
              clear hd1 k1 k2
              go_upto_if 65 with fail
              go_cut [11] from 65 to 100 (fun s11 wc => SC (fun x : It rk => x.1.1) w0 blk off (fixDown (ltR rk) a (kp + 1) d1) wc)
              case first =>
                by_cases h2 : 2 ≤ kp + 1 - a
                · have h2z : 2 ≤ (kp : Int) + 1 - (a : Int) := by omega
                  have h2d : decide (2 ≤ (kp : Int) + 1 - (a : Int)) = true := decide_eq_true h2z
                  go_wp2
                  (try simp only [h2d])
                  clear h2z h2d
                  go_loopg [11] kp (fun g3 vj wr => ∃ (j : Nat) (dj : Array (It rk)), vj = .int .i64 j ∧ j ≤ kp ∧ j ≤ g3 ∧ SC (fun x : It rk => x.1.1) w0 blk off dj wr ∧ Hid (dj.size = d.size) ∧ Hid (shiftDown (ltR rk) j dj = shiftDown (ltR rk) kp d1))
                  case atStart => exact ⟨kp, d1, by go_num, Nat.le_refl _, Nat.le_refl _, S4, HD1, hidden rfl⟩
                  case round =>
                    clear S4
                    obtain ⟨j, dj, rfl, hjk, hg3, S5, HDJ, HSD⟩ := hrel
                    by_cases hj : 1 ≤ j
                    · obtain ⟨jp, rfl⟩ : ∃ jp, j = jp + 1 := ⟨j - 1, by omega⟩
                      have hjz : 1 ≤ (jp : Int) + 1 := by omega
                      have e3 : ((jp : Int) + 1).toNat = jp + 1 := by omega
                      have p3 : (0 : Int) ≤ (jp : Int) + 1 := by omega
                      have b3 : (jp : Int) + 1 < (d.size : Int) := by omega
                      have r3 : IntKind.i64.wrap ((jp : Int) + 1) = (jp : Int) + 1 := by rw [IntKind.wrap_i64]; omega
                      have e4 : ((jp : Int)).toNat = jp := by omega
                      have p4 : (0 : Int) ≤ (jp : Int) := by omega
                      have b4 : (jp : Int) < (d.size : Int) := by omega
                      have r4 : IntKind.i64.wrap ((jp : Int)) = (jp : Int) := by rw [IntKind.wrap_i64]; omega
                      have k1 : jp + 1 < dj.size := by rw [HDJ.out]; omega
                      have k2 : jp < dj.size := by rw [HDJ.out]; omega
                      cases hlv : (ltR rk) dj[jp + 1]! dj[jp]! with
                      | true =>
                        have HL := hidden hlv
                        obtain ⟨cx, cy, cv, l1, l2, l3, l4, hc, hvi, SG⟩ := S5.cmpAll R (jp + 1) (jp) (by assumption) (by assumption)
                        have hv : cv < 0 := hvi.2 hlv
                        have hdv : decide (cv < 0) = true := decide_eq_true hv
                        clear hvi
                        go_wp2_with fail
                        go_quiet_grown (first | (go_at_call 43; refine Calls.grown_of (hc _ _)))
                        have S6 := hidden (SG.out nq osq)
                        clear l1 l2 l3 l4 hc SG
                        generalize grow (wr.drewN nq) osq = w6 at S6 ⊢
                        clear hv hdv hlv
                        have S6 := S6.out
                        obtain ⟨sx, sy, u2, u3, u4, l1, l2, l3, l4, f1, f2, f3, f4, g2, g3, g4, S7⟩ := S6.swapAll (jp + 1) (jp) (by assumption) (by assumption)
                        clear S6
                        go_wp2_with fail
                        go_region
                        clear l1 l2 l3 l4 f1 f2 f3 f4 g2 g3 g4
                        generalize (World.drew _) = w7 at S7 ⊢
                        go_wp2
                        go_roundg jp
                        case measure => omega
                        case rel => exact ⟨jp, swp dj (jp + 1) jp, by go_num, by omega, Nat.le_refl _, S7.out, hidden (by rw [size_swp]; exact HDJ.out), hidden ((shiftDown_go (ltR rk) (jp + 1) dj (by omega) HL.out).symm.trans HSD.out)⟩
                      | false =>
                        have HL := hidden hlv
                        obtain ⟨cx, cy, cv, l1, l2, l3, l4, hc, hvi, SG⟩ := S5.cmpAll R (jp + 1) (jp) (by assumption) (by assumption)
                        have hv : ¬ cv < 0 := fun e => by rw [hvi.1 e] at hlv; cases hlv
                        have hdv : decide (cv < 0) = false := decide_eq_false hv
                        clear hvi
                        go_wp2_with fail
                        go_quiet_grown (first | (go_at_call 43; refine Calls.grown_of (hc _ _)))
                        have S6 := hidden (SG.out nq osq)
                        clear l1 l2 l3 l4 hc SG
                        generalize grow (wr.drewN nq) osq = w6 at S6 ⊢
                        clear hv hdv hlv
                        go_wp2
                        go_meet
                        case rel =>
                          unfold fixDown
                          rw [if_pos h2, show kp + 1 - 1 = kp by omega, ← HSD.out, shiftDown_stop (ltR rk) (jp + 1) dj (Or.inr HL.out)]
                          exact S6.out
                    · have hjz : ¬ 1 ≤ (j : Int) := by omega
                      go_wp2
                      go_meet
                      case rel =>
                        unfold fixDown
                        rw [if_pos h2, show kp + 1 - 1 = kp by omega, ← HSD.out, shiftDown_stop (ltR rk) j dj (Or.inl (by omega))]
                        exact S5
                · have h2z : ¬ 2 ≤ (kp : Int) + 1 - (a : Int) := by omega
                  go_wp2
                  go_meet
                  case rel =>
                    unfold fixDown
                    rw [if_neg h2]
                    exact S4
              case rest =>
              clear S4
              have S4 := hcut
              have HD2 := HFS d1 HD1
              rw [HDD.out] at S4 HD2
              have HGO2 : Hid (partialIns (ltR rk) a b 5 (a + 1) d = partialIns (ltR rk) a b (5 - (s + 1)) (kp + 1) (fixUp (ltR rk) b (kp + 1) (fixDown (ltR rk) a (kp + 1) (swp dk (kp + 1) kp)))) := hidden (HGO.out)
              obtain ⟨d2, hd2⟩ : ∃ d2, d2 = fixDown (ltR rk) a (kp + 1) (swp dk (kp + 1) kp) := ⟨_, rfl⟩
              rw [← hd2] at S4 HD2 HGO2
              have HUS : Hid ((fixUp (ltR rk) b (kp + 1) d2).size = d.size) := by
                show (fixUp (ltR rk) b (kp + 1) d2).size = d.size
                unfold fixUp
                split
                · rw [size_shiftUp]; exact HD2.out
                · exact HD2.out
              clear hd2 hcut HDD HGO HFS HD1
              by_cases h2 : 2 ≤ b - (kp + 1)
              · have h2z : 2 ≤ (b : Int) - ((kp : Int) + 1) := by omega
                have h2d : decide (2 ≤ (b : Int) - ((kp : Int) + 1)) = true := decide_eq_true h2z
                go_wp2
                (try simp only [h2d])
                clear h2z h2d
                go_loopg [12] b (fun g3 vj wr => ∃ (j : Nat) (dj : Array (It rk)), vj = .int .i64 j ∧ kp + 2 ≤ j ∧ j ≤ b ∧ b - j ≤ g3 ∧ SC (fun x : It rk => x.1.1) w0 blk off dj wr ∧ Hid (dj.size = d.size) ∧ Hid (shiftUp (ltR rk) b j dj = shiftUp (ltR rk) b (kp + 1 + 1) d2))
                case atStart => exact ⟨kp + 1 + 1, d2, by go_num, by omega, by omega, by omega, S4, HD2, hidden rfl⟩
                case round =>
                  clear S4
                  obtain ⟨j, dj, rfl, hjk, hjb, hg3, S5, HDJ, HSD⟩ := hrel
                  obtain ⟨jp, rfl⟩ : ∃ jp, j = jp + 1 := ⟨j - 1, by omega⟩
                  by_cases hj : jp + 1 < b
                  · have hjz : (jp : Int) + 1 < (b : Int) := by omega
                    have e3 : ((jp : Int) + 1).toNat = jp + 1 := by omega
                    have p3 : (0 : Int) ≤ (jp : Int) + 1 := by omega
                    have b3 : (jp : Int) + 1 < (d.size : Int) := by omega
                    have r3 : IntKind.i64.wrap ((jp : Int) + 1) = (jp : Int) + 1 := by rw [IntKind.wrap_i64]; omega
                    have e4 : ((jp : Int)).toNat = jp := by omega
                    have p4 : (0 : Int) ≤ (jp : Int) := by omega
                    have b4 : (jp : Int) < (d.size : Int) := by omega
                    have r4 : IntKind.i64.wrap ((jp : Int)) = (jp : Int) := by rw [IntKind.wrap_i64]; omega
                    have k1 : jp + 1 < dj.size := by rw [HDJ.out]; omega
                    have k2 : jp < dj.size := by rw [HDJ.out]; omega
                    cases hlv : (ltR rk) dj[jp + 1]! dj[jp]! with
                    | true =>
                      have HL := hidden hlv
                      obtain ⟨cx, cy, cv, l1, l2, l3, l4, hc, hvi, SG⟩ := S5.cmpAll R (jp + 1) (jp) (by assumption) (by assumption)
                      have hv : cv < 0 := hvi.2 hlv
                      have hdv : decide (cv < 0) = true := decide_eq_true hv
                      clear hvi
                      go_wp2_with fail
                      go_quiet_grown (first | (go_at_call 43; refine Calls.grown_of (hc _ _)))
                      have S6 := hidden (SG.out nq osq)
                      clear l1 l2 l3 l4 hc SG
                      generalize grow (wr.drewN nq) osq = w6 at S6 ⊢
                      clear hv hdv hlv
                      have S6 := S6.out
                      obtain ⟨sx, sy, u2, u3, u4, l1, l2, l3, l4, f1, f2, f3, f4, g2, g3, g4, S7⟩ := S6.swapAll (jp + 1) (jp) (by assumption) (by assumption)
                      clear S6
                      go_wp2_with fail
                      go_region
                      clear l1 l2 l3 l4 f1 f2 f3 f4 g2 g3 g4
                      generalize (World.drew _) = w7 at S7 ⊢
                      go_wp2
                      go_roundg (b - (jp + 1 + 1))
                      case measure => omega
                      case rel => exact ⟨jp + 1 + 1, swp dj (jp + 1) jp, by go_num, by omega, by omega, Nat.le_refl _, S7.out, hidden (by rw [size_swp]; exact HDJ.out), hidden ((shiftUp_go (ltR rk) b (jp + 1) dj hj HL.out).symm.trans HSD.out)⟩
                    | false =>
                      have HL := hidden hlv
                      obtain ⟨cx, cy, cv, l1, l2, l3, l4, hc, hvi, SG⟩ := S5.cmpAll R (jp + 1) (jp) (by assumption) (by assumption)
                      have hv : ¬ cv < 0 := fun e => by rw [hvi.1 e] at hlv; cases hlv
                      have hdv : decide (cv < 0) = false := decide_eq_false hv
                      clear hvi
                      go_wp2_with fail
                      go_quiet_grown (first | (go_at_call 43; refine Calls.grown_of (hc _ _)))
                      have S6 := hidden (SG.out nq osq)
                      clear l1 l2 l3 l4 hc SG
                      generalize grow (wr.drewN nq) osq = w6 at S6 ⊢
                      clear hv hdv hlv
                      go_wp2
                      go_roundg (5 - (s + 1))
                      case measure => omega
                      case rel =>
                        refine ⟨kp + 1, s + 1, _, by go_num, by go_num, by omega, Nat.le_refl _, by omega, by omega, ?_, HUS, hidden HGO2.out.symm⟩
                        unfold fixUp
                        rw [if_pos h2, ← HSD.out, shiftUp_stop (ltR rk) b (jp + 1) dj (Or.inr HL.out)]
                        exact S6.out
                  · have hjz : ¬ (jp : Int) + 1 < (b : Int) := by omega
                    go_wp2
                    go_roundg (5 - (s + 1))
                    case measure => omega
                    case rel =>
                      refine ⟨kp + 1, s + 1, _, by go_num, by go_num, by omega, Nat.le_refl _, by omega, by omega, ?_, HUS, hidden HGO2.out.symm⟩
                      unfold fixUp
                      rw [if_pos h2, ← HSD.out, shiftUp_stop (ltR rk) b (jp + 1) dj (Or.inl hj)]
                      exact S5
              · have h2z : ¬ 2 ≤ (b : Int) - ((kp : Int) + 1) := by omega
                go_wp2
                go_roundg (5 - (s + 1))
                case measure => omega
                case rel =>
                  refine ⟨kp + 1, s + 1, _, by go_num, by go_num, by omega, Nat.le_refl _, by omega, by omega, ?_, HUS, hidden HGO2.out.symm⟩
                  unfold fixUp
                  rw [if_neg h2]
                  exact S4
        · have hkz : ¬ (kp : Int) + 1 < (b : Int) := by omega
          have hkd : decide ((kp : Int) + 1 < (b : Int)) = false := decide_eq_false hkz
          have S3 := hidden S2.drew
          clear S2
          go_wp2_with fail
          go_region
          generalize (World.drew _) = w3 at S3 ⊢
          have heq : ((kp : Int) + 1 == (b : Int)) = true := by rw [beq_iff_eq]; omega
          have heq' : (kp : Int) + 1 = (b : Int) := by omega
          have hfin := pi_true (ltR rk) a b s i dk hs' (by rw [← HSC.out, scanSorted_stop (ltR rk) dk b (kp + 1) (Or.inl hkb')]; omega)
          rw [HO.out] at hfin
          have HF := hidden hfin
          clear hfin
          go_wp2
          go_ret
          unfold partialInsertionSort
          rw [HF.out]
          exact ⟨rfl, S3.out⟩
    · have hsz5 : ¬ (s : Int) < 5 := by omega
      obtain rfl : s = 5 := by omega
      have hfin := pi_end (ltR rk) a b i dk
      rw [HO.out] at hfin
      have HF := hidden hfin
      clear hfin
      go_wp2
      go_ret
      unfold partialInsertionSort
      rw [HF.out]
      exact ⟨rfl, S1⟩

end Go.Proofs.Ytfkhfkbkjiekkaa
