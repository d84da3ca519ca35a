/-
  Two blocks exchanged; two rows turned about.
-/
import Derived.Test.YtfkhfkbkjiekkaaKit
import Derived.Test.YtfkhfkbkjiekkaaMerge
import Derived.BigRegion
namespace Go.Proofs.Ytfkhfkbkjiekkaa
open Go.RowKit Go.Sort

set_option maxHeartbeats 2000000 in
set_option maxRecDepth 1000000 in
theorem swapRangeC {rk : Array Int} [Inhabited (It rk)] (B blk off cap : Nat) (w0 : World) (a b n : Nat) (d : Array (It rk)) (w : World) (S : SC (fun x : It rk => x.1.1) w0 blk off d w) (hab : a + n ≤ b) (hb : b + n ≤ d.size) (hsz : d.size < 4611686018427387904) :
    Calls Try.prog 79 #[.slice (some ⟨blk, off, none⟩) d.size cap, .int .i64 a, .int .i64 b, .int .i64 n, .func (.func 43) #[] #[.pointer (some ⟨B, 0, none⟩)]] w fun e w' => e = .returned (.tuple #[]) ∧ ∃ d' : Array (It rk), Via (swIdx a b n) d d' ∧ SC (fun x : It rk => x.1.1) w0 blk off d' w' := by
  go_enter Try.func79, Try.ntmps79
  go_wp2
  go_loopg [10] n (fun g1 vi wr => ∃ (t : Nat) (dk : Array (It rk)), vi = .int .i64 t ∧ t ≤ n ∧ n - t ≤ g1 ∧ SC (fun x : It rk => x.1.1) w0 blk off dk wr ∧ Hid (Via (swIdx a b t) d dk))
  case atStart => exact ⟨0, d, by go_num, by omega, by omega, S, hidden (Via.refl d (by intro k; unfold swIdx; (repeat' split) <;> omega))⟩
  case round =>
    obtain ⟨t, dk, rfl, htn, hg1, S1, HV⟩ := hrel
    have hs := HV.out.1
    by_cases hlt : t < n
    · have hltz : (t : Int) < (n : Int) := by omega
      have e1 : ((a : Int) + (t : Int)).toNat = a + t := by omega
      have p1 : (0 : Int) ≤ (a : Int) + (t : Int) := by omega
      have b1 : (a : Int) + (t : Int) < (d.size : Int) := by omega
      have r1 : IntKind.i64.wrap ((a : Int) + (t : Int)) = (a : Int) + (t : Int) := by rw [IntKind.wrap_i64]; omega
      have e2 : ((b : Int) + (t : Int)).toNat = b + t := by omega
      have p2 : (0 : Int) ≤ (b : Int) + (t : Int) := by omega
      have b2 : (b : Int) + (t : Int) < (d.size : Int) := by omega
      have r2 : IntKind.i64.wrap ((b : Int) + (t : Int)) = (b : Int) + (t : Int) := by rw [IntKind.wrap_i64]; omega
      have k1 : a + t < dk.size := by omega
      have k2 : b + t < dk.size := by omega
      clear hs
      obtain ⟨sx, sy, u2, u3, u4, l1, l2, l3, l4, f1, f2, f3, f4, g2, g3, g4, S2⟩ := S1.swapAll (a + t) (b + t) (by assumption) (by assumption)
      clear S1
      go_wp2_with fail
      go_region
      clear l1 l2 l3 l4 f1 f2 f3 f4 g2 g3 g4
      generalize (World.drew _) = w2 at S2 ⊢
      go_wp2
      go_roundg (n - (t + 1))
      case measure => omega
      case rel => exact ⟨t + 1, swp dk (a + t) (b + t), by go_num, by omega, Nat.le_refl _, S2.out, hidden (sw_step a b t HV.out (by omega) (by omega))⟩
    · have hltz : ¬ (t : Int) < (n : Int) := by omega
      have htn' : t = n := by omega
      go_wp2
      go_end0
      exact ⟨rfl, dk, by rw [← htn']; exact HV.out, S1⟩

set_option maxHeartbeats 2000000 in
set_option maxRecDepth 1000000 in
theorem rotateC {rk : Array Int} [Inhabited (It rk)] (B blk off cap : Nat) (w0 : World) (a m b : Nat) (d : Array (It rk)) (w : World) (S : SC (fun x : It rk => x.1.1) w0 blk off d w) (ham : a < m) (hmb : m < b) (hb : b ≤ d.size) (hsz : d.size < 4611686018427387904) :
    Calls Try.prog 70 #[.slice (some ⟨blk, off, none⟩) d.size cap, .int .i64 a, .int .i64 m, .int .i64 b, .func (.func 43) #[] #[.pointer (some ⟨B, 0, none⟩)]] w fun e w' => e = .returned (.tuple #[]) ∧ ∃ d' : Array (It rk), Via (rotIdx a m b) d d' ∧ SC (fun x : It rk => x.1.1) w0 blk off d' w' := by
  have a1 : IntKind.i64.wrap ((m : Int) - (a : Int)) = (m : Int) - (a : Int) := by rw [IntKind.wrap_i64]; omega
  have a2 : IntKind.i64.wrap ((b : Int) - (m : Int)) = (b : Int) - (m : Int) := by rw [IntKind.wrap_i64]; omega
  go_enter Try.func70, Try.ntmps70
  go_wp2
  go_loopg [10, 11] (b - a) (fun g1 vi vj wr => ∃ (i j : Nat) (dk : Array (It rk)), vi = .int .i64 i ∧ vj = .int .i64 j ∧ 0 < i ∧ 0 < j ∧ i ≤ m - a ∧ j ≤ b - m ∧ i + j ≤ g1 ∧ dk.size = d.size ∧ SC (fun x : It rk => x.1.1) w0 blk off dk wr ∧ Hid (∀ k, dk[rotIdx (m - i) m (m + j) k]! = d[rotIdx a m b k]!))
  case atStart => exact ⟨m - a, b - m, d, by go_num, by go_num, by omega, by omega, Nat.le_refl _, Nat.le_refl _, by omega, rfl, S, hidden (by intro k; rw [show m - (m - a) = a by omega, show m + (b - m) = b by omega])⟩
  case round =>
    obtain ⟨i, j, dk, rfl, rfl, hi0, hj0, hi, hj, hg1, hs, S1, HV⟩ := hrel
    clear a1 a2
    by_cases hij : i = j
    · subst hij
      have r1 : IntKind.i64.wrap ((m : Int) - (i : Int)) = (m : Int) - (i : Int) := by rw [IntKind.wrap_i64]; omega
      have hc := swapRangeC B blk off cap w0 (m - i) m i dk wr S1 (by omega) (by omega) (by omega)
      have z1 : ((m - i : Nat) : Int) = (m : Int) - (i : Int) := by omega
      rw [z1, hs] at hc
      clear z1
      go_wp2_with fail
      refine hc.mono ?_
      rintro e w2 ⟨rfl, d2, V, S2⟩
      go_wp2
      go_end0
      refine ⟨rfl, d2, ⟨by rw [V.1, hs], fun k => ?_⟩, S2⟩
      rw [V.2, ← HV.out k]
      congr 1
      unfold swIdx rotIdx; (repeat' split) <;> omega
    · have hneq : ((i : Int) == (j : Int)) = false := by rw [beq_eq_false_iff_ne]; omega
      have hneq' : ¬ (i : Int) = (j : Int) := by omega
      by_cases hgt : j < i
      · have hgtz : (j : Int) < (i : Int) := by omega
        have r1 : IntKind.i64.wrap ((m : Int) - (i : Int)) = (m : Int) - (i : Int) := by rw [IntKind.wrap_i64]; omega
        have r2 : IntKind.i64.wrap ((i : Int) - (j : Int)) = (i : Int) - (j : Int) := by rw [IntKind.wrap_i64]; omega
        have hc := swapRangeC B blk off cap w0 (m - i) m j dk wr S1 (by omega) (by omega) (by omega)
        have z1 : ((m - i : Nat) : Int) = (m : Int) - (i : Int) := by omega
        rw [z1, hs] at hc
        clear z1
        go_wp2_with fail
        refine hc.mono ?_
        rintro e w2 ⟨rfl, d2, V, S2⟩
        have V := hidden V
        go_wp2
        go_roundg (i - j + j)
        case measure => omega
        case rel =>
          refine ⟨i - j, j, d2, by go_num, rfl, by omega, hj0, by omega, hj, Nat.le_refl _, by rw [V.out.1, hs], S2, hidden fun k => ?_⟩
          rw [V.out.2, ← HV.out k]
          congr 1
          unfold swIdx rotIdx; (repeat' split) <;> omega
      · have hgtz : ¬ (j : Int) < (i : Int) := by omega
        have r1 : IntKind.i64.wrap ((m : Int) - (i : Int)) = (m : Int) - (i : Int) := by rw [IntKind.wrap_i64]; omega
        have r2 : IntKind.i64.wrap ((m : Int) + (j : Int)) = (m : Int) + (j : Int) := by rw [IntKind.wrap_i64]; omega
        have r3 : IntKind.i64.wrap ((m : Int) + (j : Int) - (i : Int)) = (m : Int) + (j : Int) - (i : Int) := by rw [IntKind.wrap_i64]; omega
        have r4 : IntKind.i64.wrap ((j : Int) - (i : Int)) = (j : Int) - (i : Int) := by rw [IntKind.wrap_i64]; omega
        have hc := swapRangeC B blk off cap w0 (m - i) (m + j - i) i dk wr S1 (by omega) (by omega) (by omega)
        have z1 : ((m - i : Nat) : Int) = (m : Int) - (i : Int) := by omega
        have z2 : ((m + j - i : Nat) : Int) = (m : Int) + (j : Int) - (i : Int) := by omega
        rw [z1, z2, hs] at hc
        clear z1 z2
        go_wp2_with fail
        refine hc.mono ?_
        rintro e w2 ⟨rfl, d2, V, S2⟩
        have V := hidden V
        go_wp2
        go_roundg (i + (j - i))
        case measure => omega
        case rel =>
          refine ⟨i, j - i, d2, rfl, by go_num, hi0, by omega, hi, by omega, Nat.le_refl _, by rw [V.out.1, hs], S2, hidden fun k => ?_⟩
          rw [V.out.2, ← HV.out k]
          congr 1
          unfold swIdx rotIdx; (repeat' split) <;> omega

end Go.Proofs.Ytfkhfkbkjiekkaa
