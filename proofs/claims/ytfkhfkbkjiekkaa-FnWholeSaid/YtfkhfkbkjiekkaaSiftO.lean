/-
  Sifting, numbers.
-/
import Derived.Test.YtfkhfkbkjiekkaaKitO
import Derived.BigRegion
import Derived.Sort.WalkB2
import Derived.Sort.WalkB3
import Derived.Deep.CutRange
import Derived.Deep.CutBlock
namespace Go.Proofs.Ytfkhfkbkjiekkaa
open Go.RowKit Go.Sort

set_option maxHeartbeats 2000000 in
set_option maxRecDepth 1000000 in
theorem siftDownO (blk off cap : Nat) (w0 : World) (lo hi first : Nat) (d : Array (Int)) (w : World) (S : SO w0 blk off d w) (hlo : lo ≤ hi) (hb : first + hi ≤ d.size) (hsz : d.size < 1152921504606846976) :
    Calls Try.prog 76 #[.slice (some ⟨blk, off, none⟩) d.size cap, .int .i64 lo, .int .i64 hi, .int .i64 first] w fun e w' => e = .returned (.tuple #[]) ∧ SO w0 blk off (siftDown ltInt hi first lo d) w' := by
  have mixed : Try.prog.follows .mixedOrders = true := by kernel_rfl
  go_enter Try.func76, Try.ntmps76
  go_wp2
  go_loopg [8] (hi - lo) (fun g1 s10 wr => ∃ (root : Nat) (dk : Array (Int)), s10 = .int .i64 root ∧ root ≤ hi ∧ hi - root ≤ g1 ∧ SO w0 blk off dk wr ∧ Hid (dk.size = d.size) ∧ Hid (siftDown ltInt hi first root dk = siftDown ltInt hi first lo d))
  case atStart => exact ⟨lo, d, rfl, hlo, Nat.le_refl _, S, hidden rfl, hidden rfl⟩
  case round =>
    obtain ⟨root, dk, rfl, hr, hg1, S1, HDS, HE⟩ := hrel
    clear S
    by_cases h0 : hi ≤ 2 * root + 1
    · have h0z : (hi : Int) ≤ 2 * (root : Int) + 1 := by omega
      go_wp2
      go_end0
      exact ⟨rfl, by rw [← HE.out, sd_end ltInt dk h0]; exact S1⟩
    have h0z : ¬ (hi : Int) ≤ 2 * (root : Int) + 1 := by omega
    have rch : IntKind.i64.wrap (2 * (root : Int) + 1 + 1) = 2 * (root : Int) + 1 + 1 := by rw [IntKind.wrap_i64]; omega
    by_cases h1 : 2 * root + 2 < hi
    · have h1z : 2 * (root : Int) + 1 + 1 < (hi : Int) := by omega
      cases hL : ltInt dk[first + (2 * root + 1)]! dk[first + (2 * root + 2)]! with
      | true =>
        have el : ((first : Int) + (2 * (root : Int) + 1)).toNat = first + (2 * root + 1) := by omega
        have pl : (0 : Int) ≤ (first : Int) + (2 * (root : Int) + 1) := by omega
        have bl : (first : Int) + (2 * (root : Int) + 1) < (d.size : Int) := by omega
        have rl : IntKind.i64.wrap ((first : Int) + (2 * (root : Int) + 1)) = (first : Int) + (2 * (root : Int) + 1) := by rw [IntKind.wrap_i64]; omega
        have er : ((first : Int) + (2 * (root : Int) + 1) + 1).toNat = first + (2 * root + 2) := by omega
        have pr : (0 : Int) ≤ (first : Int) + (2 * (root : Int) + 1) + 1 := by omega
        have br : (first : Int) + (2 * (root : Int) + 1) + 1 < (d.size : Int) := by omega
        have rr : IntKind.i64.wrap ((first : Int) + (2 * (root : Int) + 1) + 1) = (first : Int) + (2 * (root : Int) + 1) + 1 := by rw [IntKind.wrap_i64]; omega
        have HL := hidden hL
        have k1 : first + (2 * root + 1) < dk.size := by rw [HDS.out]; omega
        have k2 : first + (2 * root + 2) < dk.size := by rw [HDS.out]; omega
        obtain ⟨cx, cy, l1, l2, hvi, SG⟩ := S1.cmpAll (first + (2 * root + 1)) (first + (2 * root + 2)) (by assumption) (by assumption)
        have hv : cx < cy := hvi.2 hL
        have hdv : decide (cx < cy) = true := decide_eq_true hv
        clear hvi
        go_wp2_with fail
        go_quiet ((go_at_call 44; exact Calls.quiet_of_same (less_any _ _ _)))
        have S2 := hidden (SG.out nq)
        clear l1 l2 SG
        generalize wr.drewN nq = w2 at S2 ⊢
        clear hv hdv hL S1 k1 k2
        go_wp2_with fail
        cases hG : ltInt dk[first + root]! dk[first + (2 * root + 2)]! with
        | true =>
          have ea : ((first : Int) + (root : Int)).toNat = first + root := by omega
          have pa : (0 : Int) ≤ (first : Int) + (root : Int) := by omega
          have ba : (first : Int) + (root : Int) < (d.size : Int) := by omega
          have ra : IntKind.i64.wrap ((first : Int) + (root : Int)) = (first : Int) + (root : Int) := by rw [IntKind.wrap_i64]; omega
          have ec : ((first : Int) + (2 * (root : Int) + 1 + 1)).toNat = first + (2 * root + 2) := by omega
          have pc : (0 : Int) ≤ (first : Int) + (2 * (root : Int) + 1 + 1) := by omega
          have bc : (first : Int) + (2 * (root : Int) + 1 + 1) < (d.size : Int) := by omega
          have rc : IntKind.i64.wrap ((first : Int) + (2 * (root : Int) + 1 + 1)) = (first : Int) + (2 * (root : Int) + 1 + 1) := by rw [IntKind.wrap_i64]; omega
          have HG := hidden hG
          have k1 : first + root < dk.size := by rw [HDS.out]; omega
          have k2 : first + (2 * root + 2) < dk.size := by rw [HDS.out]; omega
          obtain ⟨cx, cy, l1, l2, hvi, SG⟩ := S2.out.cmpAll (first + root) (first + (2 * root + 2)) (by assumption) (by assumption)
          have hv : cx < cy := hvi.2 hG
          have hdv : decide (cx < cy) = true := decide_eq_true hv
          clear hvi
          go_wp2_with fail
          go_quiet ((go_at_call 44; exact Calls.quiet_of_same (less_any _ _ _)))
          have S8 := hidden (SG.out nq)
          clear l1 l2 SG
          generalize w2.drewN nq = w8 at S8 ⊢
          clear hv hdv hG
          have S8 := S8.out
          obtain ⟨sx, sy, u2, l1, l2, f1, f2, g2, S9⟩ := S8.swapAll (first + root) (first + (2 * root + 2)) (by assumption) (by assumption)
          clear S8
          go_wp2_with fail
          go_region
          clear l1 l2 f1 f2 g2
          generalize (World.drew _) = w9 at S9 ⊢
          go_wp2
          go_roundg (hi - (2 * root + 2))
          case measure => omega
          case rel => exact ⟨2 * root + 2, swp dk (first + root) (first + (2 * root + 2)), by go_num, by omega, Nat.le_refl _, S9.out, hidden (by rw [size_swp]; exact HDS.out), hidden (by rw [← HE.out, sd_right_go ltInt dk h1 HL.out HG.out])⟩
        | false =>
          have ea : ((first : Int) + (root : Int)).toNat = first + root := by omega
          have pa : (0 : Int) ≤ (first : Int) + (root : Int) := by omega
          have ba : (first : Int) + (root : Int) < (d.size : Int) := by omega
          have ra : IntKind.i64.wrap ((first : Int) + (root : Int)) = (first : Int) + (root : Int) := by rw [IntKind.wrap_i64]; omega
          have ec : ((first : Int) + (2 * (root : Int) + 1 + 1)).toNat = first + (2 * root + 2) := by omega
          have pc : (0 : Int) ≤ (first : Int) + (2 * (root : Int) + 1 + 1) := by omega
          have bc : (first : Int) + (2 * (root : Int) + 1 + 1) < (d.size : Int) := by omega
          have rc : IntKind.i64.wrap ((first : Int) + (2 * (root : Int) + 1 + 1)) = (first : Int) + (2 * (root : Int) + 1 + 1) := by rw [IntKind.wrap_i64]; omega
          have HG := hidden hG
          have k1 : first + root < dk.size := by rw [HDS.out]; omega
          have k2 : first + (2 * root + 2) < dk.size := by rw [HDS.out]; omega
          obtain ⟨cx, cy, l1, l2, hvi, SG⟩ := S2.out.cmpAll (first + root) (first + (2 * root + 2)) (by assumption) (by assumption)
          have hv : ¬ cx < cy := fun e => by rw [hvi.1 e] at hG; cases hG
          have hdv : decide (cx < cy) = false := decide_eq_false hv
          clear hvi
          go_wp2_with fail
          go_quiet ((go_at_call 44; exact Calls.quiet_of_same (less_any _ _ _)))
          have S8 := hidden (SG.out nq)
          clear l1 l2 SG
          generalize w2.drewN nq = w8 at S8 ⊢
          clear hv hdv hG
          go_wp2
          (try simp only [Exit.inBlock, Exit.then]); refine bodyPost_ret (results_none rfl _ _ _) rfl ?_
          exact ⟨rfl, by rw [← HE.out, sd_right_stop ltInt dk h1 HL.out HG.out]; exact S8.out⟩
      | false =>
        have el : ((first : Int) + (2 * (root : Int) + 1)).toNat = first + (2 * root + 1) := by omega
        have pl : (0 : Int) ≤ (first : Int) + (2 * (root : Int) + 1) := by omega
        have bl : (first : Int) + (2 * (root : Int) + 1) < (d.size : Int) := by omega
        have rl : IntKind.i64.wrap ((first : Int) + (2 * (root : Int) + 1)) = (first : Int) + (2 * (root : Int) + 1) := by rw [IntKind.wrap_i64]; omega
        have er : ((first : Int) + (2 * (root : Int) + 1) + 1).toNat = first + (2 * root + 2) := by omega
        have pr : (0 : Int) ≤ (first : Int) + (2 * (root : Int) + 1) + 1 := by omega
        have br : (first : Int) + (2 * (root : Int) + 1) + 1 < (d.size : Int) := by omega
        have rr : IntKind.i64.wrap ((first : Int) + (2 * (root : Int) + 1) + 1) = (first : Int) + (2 * (root : Int) + 1) + 1 := by rw [IntKind.wrap_i64]; omega
        have HL := hidden hL
        have k1 : first + (2 * root + 1) < dk.size := by rw [HDS.out]; omega
        have k2 : first + (2 * root + 2) < dk.size := by rw [HDS.out]; omega
        obtain ⟨cx, cy, l1, l2, hvi, SG⟩ := S1.cmpAll (first + (2 * root + 1)) (first + (2 * root + 2)) (by assumption) (by assumption)
        have hv : ¬ cx < cy := fun e => by rw [hvi.1 e] at hL; cases hL
        have hdv : decide (cx < cy) = false := decide_eq_false hv
        clear hvi
        go_wp2_with fail
        go_quiet ((go_at_call 44; exact Calls.quiet_of_same (less_any _ _ _)))
        have S2 := hidden (SG.out nq)
        clear l1 l2 SG
        generalize wr.drewN nq = w2 at S2 ⊢
        clear hv hdv hL S1 k1 k2
        go_wp2_with fail
        cases hG : ltInt dk[first + root]! dk[first + (2 * root + 1)]! with
        | true =>
          have ea : ((first : Int) + (root : Int)).toNat = first + root := by omega
          have pa : (0 : Int) ≤ (first : Int) + (root : Int) := by omega
          have ba : (first : Int) + (root : Int) < (d.size : Int) := by omega
          have ra : IntKind.i64.wrap ((first : Int) + (root : Int)) = (first : Int) + (root : Int) := by rw [IntKind.wrap_i64]; omega
          have ec : ((first : Int) + (2 * (root : Int) + 1)).toNat = first + (2 * root + 1) := by omega
          have pc : (0 : Int) ≤ (first : Int) + (2 * (root : Int) + 1) := by omega
          have bc : (first : Int) + (2 * (root : Int) + 1) < (d.size : Int) := by omega
          have rc : IntKind.i64.wrap ((first : Int) + (2 * (root : Int) + 1)) = (first : Int) + (2 * (root : Int) + 1) := by rw [IntKind.wrap_i64]; omega
          have HG := hidden hG
          have k1 : first + root < dk.size := by rw [HDS.out]; omega
          have k2 : first + (2 * root + 1) < dk.size := by rw [HDS.out]; omega
          obtain ⟨cx, cy, l1, l2, hvi, SG⟩ := S2.out.cmpAll (first + root) (first + (2 * root + 1)) (by assumption) (by assumption)
          have hv : cx < cy := hvi.2 hG
          have hdv : decide (cx < cy) = true := decide_eq_true hv
          clear hvi
          go_wp2_with fail
          go_quiet ((go_at_call 44; exact Calls.quiet_of_same (less_any _ _ _)))
          have S8 := hidden (SG.out nq)
          clear l1 l2 SG
          generalize w2.drewN nq = w8 at S8 ⊢
          clear hv hdv hG
          have S8 := S8.out
          obtain ⟨sx, sy, u2, l1, l2, f1, f2, g2, S9⟩ := S8.swapAll (first + root) (first + (2 * root + 1)) (by assumption) (by assumption)
          clear S8
          go_wp2_with fail
          go_region
          clear l1 l2 f1 f2 g2
          generalize (World.drew _) = w9 at S9 ⊢
          go_wp2
          go_roundg (hi - (2 * root + 1))
          case measure => omega
          case rel => exact ⟨2 * root + 1, swp dk (first + root) (first + (2 * root + 1)), by go_num, by omega, Nat.le_refl _, S9.out, hidden (by rw [size_swp]; exact HDS.out), hidden (by rw [← HE.out, sd_left_go ltInt dk (by omega) (fun _ => HL.out) HG.out])⟩
        | false =>
          have ea : ((first : Int) + (root : Int)).toNat = first + root := by omega
          have pa : (0 : Int) ≤ (first : Int) + (root : Int) := by omega
          have ba : (first : Int) + (root : Int) < (d.size : Int) := by omega
          have ra : IntKind.i64.wrap ((first : Int) + (root : Int)) = (first : Int) + (root : Int) := by rw [IntKind.wrap_i64]; omega
          have ec : ((first : Int) + (2 * (root : Int) + 1)).toNat = first + (2 * root + 1) := by omega
          have pc : (0 : Int) ≤ (first : Int) + (2 * (root : Int) + 1) := by omega
          have bc : (first : Int) + (2 * (root : Int) + 1) < (d.size : Int) := by omega
          have rc : IntKind.i64.wrap ((first : Int) + (2 * (root : Int) + 1)) = (first : Int) + (2 * (root : Int) + 1) := by rw [IntKind.wrap_i64]; omega
          have HG := hidden hG
          have k1 : first + root < dk.size := by rw [HDS.out]; omega
          have k2 : first + (2 * root + 1) < dk.size := by rw [HDS.out]; omega
          obtain ⟨cx, cy, l1, l2, hvi, SG⟩ := S2.out.cmpAll (first + root) (first + (2 * root + 1)) (by assumption) (by assumption)
          have hv : ¬ cx < cy := fun e => by rw [hvi.1 e] at hG; cases hG
          have hdv : decide (cx < cy) = false := decide_eq_false hv
          clear hvi
          go_wp2_with fail
          go_quiet ((go_at_call 44; exact Calls.quiet_of_same (less_any _ _ _)))
          have S8 := hidden (SG.out nq)
          clear l1 l2 SG
          generalize w2.drewN nq = w8 at S8 ⊢
          clear hv hdv hG
          go_wp2
          (try simp only [Exit.inBlock, Exit.then]); refine bodyPost_ret (results_none rfl _ _ _) rfl ?_
          exact ⟨rfl, by rw [← HE.out, sd_left_stop ltInt dk (by omega) (fun _ => HL.out) HG.out]; exact S8.out⟩
    · have h1z : ¬ 2 * (root : Int) + 1 + 1 < (hi : Int) := by omega
      have h1d : decide (2 * (root : Int) + 1 + 1 < (hi : Int)) = false := decide_eq_false h1z
      have S2 := hidden S1.drew
      clear S1
      go_wp2_with fail
      go_region
      generalize (World.drew _) = w2 at S2 ⊢
      go_wp2_with fail
      cases hG : ltInt dk[first + root]! dk[first + (2 * root + 1)]! with
      | true =>
        have ea : ((first : Int) + (root : Int)).toNat = first + root := by omega
        have pa : (0 : Int) ≤ (first : Int) + (root : Int) := by omega
        have ba : (first : Int) + (root : Int) < (d.size : Int) := by omega
        have ra : IntKind.i64.wrap ((first : Int) + (root : Int)) = (first : Int) + (root : Int) := by rw [IntKind.wrap_i64]; omega
        have ec : ((first : Int) + (2 * (root : Int) + 1)).toNat = first + (2 * root + 1) := by omega
        have pc : (0 : Int) ≤ (first : Int) + (2 * (root : Int) + 1) := by omega
        have bc : (first : Int) + (2 * (root : Int) + 1) < (d.size : Int) := by omega
        have rc : IntKind.i64.wrap ((first : Int) + (2 * (root : Int) + 1)) = (first : Int) + (2 * (root : Int) + 1) := by rw [IntKind.wrap_i64]; omega
        have HG := hidden hG
        have k1 : first + root < dk.size := by rw [HDS.out]; omega
        have k2 : first + (2 * root + 1) < dk.size := by rw [HDS.out]; omega
        obtain ⟨cx, cy, l1, l2, hvi, SG⟩ := S2.out.cmpAll (first + root) (first + (2 * root + 1)) (by assumption) (by assumption)
        have hv : cx < cy := hvi.2 hG
        have hdv : decide (cx < cy) = true := decide_eq_true hv
        clear hvi
        go_wp2_with fail
        go_quiet ((go_at_call 44; exact Calls.quiet_of_same (less_any _ _ _)))
        have S8 := hidden (SG.out nq)
        clear l1 l2 SG
        generalize w2.drewN nq = w8 at S8 ⊢
        clear hv hdv hG
        have S8 := S8.out
        obtain ⟨sx, sy, u2, l1, l2, f1, f2, g2, S9⟩ := S8.swapAll (first + root) (first + (2 * root + 1)) (by assumption) (by assumption)
        clear S8
        go_wp2_with fail
        go_region
        clear l1 l2 f1 f2 g2
        generalize (World.drew _) = w9 at S9 ⊢
        go_wp2
        go_roundg (hi - (2 * root + 1))
        case measure => omega
        case rel => exact ⟨2 * root + 1, swp dk (first + root) (first + (2 * root + 1)), by go_num, by omega, Nat.le_refl _, S9.out, hidden (by rw [size_swp]; exact HDS.out), hidden (by rw [← HE.out, sd_left_go ltInt dk (by omega) (fun h => absurd h h1) HG.out])⟩
      | false =>
        have ea : ((first : Int) + (root : Int)).toNat = first + root := by omega
        have pa : (0 : Int) ≤ (first : Int) + (root : Int) := by omega
        have ba : (first : Int) + (root : Int) < (d.size : Int) := by omega
        have ra : IntKind.i64.wrap ((first : Int) + (root : Int)) = (first : Int) + (root : Int) := by rw [IntKind.wrap_i64]; omega
        have ec : ((first : Int) + (2 * (root : Int) + 1)).toNat = first + (2 * root + 1) := by omega
        have pc : (0 : Int) ≤ (first : Int) + (2 * (root : Int) + 1) := by omega
        have bc : (first : Int) + (2 * (root : Int) + 1) < (d.size : Int) := by omega
        have rc : IntKind.i64.wrap ((first : Int) + (2 * (root : Int) + 1)) = (first : Int) + (2 * (root : Int) + 1) := by rw [IntKind.wrap_i64]; omega
        have HG := hidden hG
        have k1 : first + root < dk.size := by rw [HDS.out]; omega
        have k2 : first + (2 * root + 1) < dk.size := by rw [HDS.out]; omega
        obtain ⟨cx, cy, l1, l2, hvi, SG⟩ := S2.out.cmpAll (first + root) (first + (2 * root + 1)) (by assumption) (by assumption)
        have hv : ¬ cx < cy := fun e => by rw [hvi.1 e] at hG; cases hG
        have hdv : decide (cx < cy) = false := decide_eq_false hv
        clear hvi
        go_wp2_with fail
        go_quiet ((go_at_call 44; exact Calls.quiet_of_same (less_any _ _ _)))
        have S8 := hidden (SG.out nq)
        clear l1 l2 SG
        generalize w2.drewN nq = w8 at S8 ⊢
        clear hv hdv hG
        go_wp2
        (try simp only [Exit.inBlock, Exit.then]); refine bodyPost_ret (results_none rfl _ _ _) rfl ?_
        exact ⟨rfl, by rw [← HE.out, sd_left_stop ltInt dk (by omega) (fun h => absurd h h1) HG.out]; exact S8.out⟩

end Go.Proofs.Ytfkhfkbkjiekkaa
