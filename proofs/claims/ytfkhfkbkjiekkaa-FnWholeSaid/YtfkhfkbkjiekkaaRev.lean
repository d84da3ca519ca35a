/-
  A range reversed, in both families.
-/
import Derived.Test.YtfkhfkbkjiekkaaKitO
import Derived.BigRegion
namespace Go.Proofs.Ytfkhfkbkjiekkaa
open Go.RowKit Go.Sort

set_option maxHeartbeats 2000000 in
set_option maxRecDepth 1000000 in
theorem reverseRangeC {rk : Array Int} [Inhabited (It rk)] (B blk off cap : Nat) (w0 : World) (a b : Nat) (d : Array (It rk)) (w : World) (S : SC (fun x : It rk => x.1.1) w0 blk off d w) (hab : a ≤ b) (hb : b ≤ d.size) (hsz : d.size < 4611686018427387904) :
    Calls Try.prog 56 #[.slice (some ⟨blk, off, none⟩) d.size cap, .int .i64 a, .int .i64 b, .func (.func 43) #[] #[.pointer (some ⟨B, 0, none⟩)]] w fun e w' => e = .returned (.tuple #[]) ∧ SC (fun x : It rk => x.1.1) w0 blk off (reverseRange d a b) w' := by
  go_enter Try.func56, Try.ntmps56
  go_wp2
  go_loopg [8, 9] (b - a) (fun kx s8 s9 wr => ∃ (i jn : Nat) (jz : Int) (dk : Array (It rk)), s8 = .int .i64 i ∧ s9 = .int .i64 jz ∧ ((i : Int) < jz → jz = jn ∧ jn < d.size) ∧ (¬ (i : Int) < jz → ¬ i < jn) ∧ jn - i ≤ kx ∧
    dk.size = d.size ∧ SC (fun x : It rk => x.1.1) w0 blk off dk wr ∧ Hid (reverseLoop i jn dk = reverseLoop a (b - 1) d))
  case atStart => exact ⟨a, b - 1, (b : Int) - 1, d, rfl, rfl, fun h => ⟨by omega, by omega⟩, fun h => by omega, by omega, rfl, S, hidden rfl⟩
  case round =>
    obtain ⟨i, jn, jz, dk, rfl, rfl, h1, h2, hkx, hds, S1, H⟩ := hrel
    by_cases hlt : (i : Int) < jz
    · obtain ⟨rfl, hjn⟩ := h1 hlt
      have hij : i < jn := by omega
      have q1 : (i : Int) < (d.size : Int) := by omega
      have q2 : (jn : Int) < (d.size : Int) := by omega
      have i1 : i < dk.size := by omega
      have j1 : jn < dk.size := by omega
      have HS := hidden hds
      clear h1 h2 hds
      obtain ⟨sx, sy, u2, u3, u4, l1, l2, l3, l4, f1, f2, f3, f4, g2, g3, g4, S2⟩ := S1.swapAll (i) (jn) (by assumption) (by assumption)
      clear S1
      go_wp2_with fail
      go_region
      clear l1 l2 l3 l4 f1 f2 f3 f4 g2 g3 g4
      generalize (World.drew _) = w2 at S2 ⊢
      go_wp2
      go_roundg (jn - 1 - (i + 1))
      case measure => omega
      case rel =>
        refine ⟨i + 1, jn - 1, (jn : Int) - 1, swp dk i jn, by simp, rfl, fun h => ⟨by omega, by omega⟩, fun h => by omega, Nat.le_refl _, by rw [size_swp]; exact HS.out, S2.out, hidden ?_⟩
        have hst : reverseLoop i jn dk = reverseLoop (i + 1) (jn - 1) (swp dk i jn) := by conv => lhs; rw [reverseLoop, if_pos hij]
        rw [← H.out, hst]
    · have hnot := h2 hlt
      go_wp2
      go_end0
      refine ⟨rfl, ?_⟩
      rw [reverseRange, ← H.out, reverseLoop, if_neg hnot]
      exact S1

set_option maxHeartbeats 2000000 in
set_option maxRecDepth 1000000 in
theorem reverseRangeO (blk off cap : Nat) (w0 : World) (a b : Nat) (d : Array (Int)) (w : World) (S : SO w0 blk off d w) (hab : a ≤ b) (hb : b ≤ d.size) (hsz : d.size < 4611686018427387904) :
    Calls Try.prog 66 #[.slice (some ⟨blk, off, none⟩) d.size cap, .int .i64 a, .int .i64 b] w fun e w' => e = .returned (.tuple #[]) ∧ SO w0 blk off (reverseRange d a b) w' := by
  go_enter Try.func66, Try.ntmps66
  go_wp2
  go_loopg [6, 7] (b - a) (fun kx s8 s9 wr => ∃ (i jn : Nat) (jz : Int) (dk : Array (Int)), s8 = .int .i64 i ∧ s9 = .int .i64 jz ∧ ((i : Int) < jz → jz = jn ∧ jn < d.size) ∧ (¬ (i : Int) < jz → ¬ i < jn) ∧ jn - i ≤ kx ∧
    dk.size = d.size ∧ SO w0 blk off dk wr ∧ Hid (reverseLoop i jn dk = reverseLoop a (b - 1) d))
  case atStart => exact ⟨a, b - 1, (b : Int) - 1, d, rfl, rfl, fun h => ⟨by omega, by omega⟩, fun h => by omega, by omega, rfl, S, hidden rfl⟩
  case round =>
    obtain ⟨i, jn, jz, dk, rfl, rfl, h1, h2, hkx, hds, S1, H⟩ := hrel
    by_cases hlt : (i : Int) < jz
    · obtain ⟨rfl, hjn⟩ := h1 hlt
      have hij : i < jn := by omega
      have q1 : (i : Int) < (d.size : Int) := by omega
      have q2 : (jn : Int) < (d.size : Int) := by omega
      have i1 : i < dk.size := by omega
      have j1 : jn < dk.size := by omega
      have HS := hidden hds
      clear h1 h2 hds
      obtain ⟨sx, sy, u2, l1, l2, f1, f2, g2, S2⟩ := S1.swapAll (i) (jn) (by assumption) (by assumption)
      clear S1
      go_wp2_with fail
      go_region
      clear l1 l2 f1 f2 g2
      generalize (World.drew _) = w2 at S2 ⊢
      go_wp2
      go_roundg (jn - 1 - (i + 1))
      case measure => omega
      case rel =>
        refine ⟨i + 1, jn - 1, (jn : Int) - 1, swp dk i jn, by simp, rfl, fun h => ⟨by omega, by omega⟩, fun h => by omega, Nat.le_refl _, by rw [size_swp]; exact HS.out, S2.out, hidden ?_⟩
        have hst : reverseLoop i jn dk = reverseLoop (i + 1) (jn - 1) (swp dk i jn) := by conv => lhs; rw [reverseLoop, if_pos hij]
        rw [← H.out, hst]
    · have hnot := h2 hlt
      go_wp2
      go_end0
      refine ⟨rfl, ?_⟩
      rw [reverseRange, ← H.out, reverseLoop, if_neg hnot]
      exact S1

end Go.Proofs.Ytfkhfkbkjiekkaa
