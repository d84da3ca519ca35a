/-
  Heap sort, in both families.
-/
import Derived.Test.YtfkhfkbkjiekkaaSiftC
import Derived.Test.YtfkhfkbkjiekkaaSiftO
import Derived.BigRegion
import Derived.Sort.WalkB2
import Derived.Sort.WalkB3
import Derived.Deep.CutRange
import Derived.Deep.CutBlock
namespace Go.Proofs.Ytfkhfkbkjiekkaa
open Go.RowKit Go.Sort

set_option maxHeartbeats 2000000 in
set_option maxRecDepth 1000000 in
theorem heapSortC {rk : Array Int} [Inhabited (It rk)] (B blk off cap : Nat) (w0 : World) (R : ∀ W, w0.grownBy W (some blk) → Ranks W B rk) (a b : Nat) (d : Array (It rk)) (w : World) (S : SC (fun x : It rk => x.1.1) w0 blk off d w) (hab : a ≤ b) (hb : b ≤ d.size) (hsz : d.size < 1152921504606846976) :
    Calls Try.prog 53 #[.slice (some ⟨blk, off, none⟩) d.size cap, .int .i64 a, .int .i64 b, .func (.func 43) #[] #[.pointer (some ⟨B, 0, none⟩)]] w fun e w' => e = .returned (.tuple #[]) ∧ SC (fun x : It rk => x.1.1) w0 blk off (heapSort (ltR rk) d a b) w' := by
  have ecast : ((b - a : Nat) : Int) = (b : Int) - (a : Int) := by omega
  go_enter Try.func53, Try.ntmps53
  go_wp2
  go_loopg [11] ((b - a - 1) / 2 + 1) (fun kx s11 wr => s11 = .int .i64 ((kx : Int) - 1) ∧ kx ≤ (b - a - 1) / 2 + 1 ∧ ∃ (dk : Array (It rk)), SC (fun x : It rk => x.1.1) w0 blk off dk wr ∧ Hid (dk.size = d.size) ∧
    Hid (heapBuild (ltR rk) (b - a) a kx dk = heapBuild (ltR rk) (b - a) a ((b - a - 1) / 2 + 1) d))
  case atStart => exact ⟨by rw [half_start hab], Nat.le_refl _, d, S, hidden rfl, hidden rfl⟩
  case round =>
    obtain ⟨rfl, hkk, dk, S1, HDS, HE⟩ := hrel
    clear S
    cases gk with
    | zero =>
      have HB := hidden (show dk = heapBuild (ltR rk) (b - a) a ((b - a - 1) / 2 + 1) d from HE.out)
      clear HE hkk
      go_wp2
      go_loopg [12] (b - a) (fun kx s12 wr2 => s12 = .int .i64 ((kx : Int) - 1) ∧ kx ≤ b - a ∧ ∃ (dj : Array (It rk)), SC (fun x : It rk => x.1.1) w0 blk off dj wr2 ∧ Hid (dj.size = d.size) ∧ Hid (heapPop (ltR rk) a kx dj = heapPop (ltR rk) a (b - a) dk))
      case atStart => exact ⟨by rw [ecast], Nat.le_refl _, dk, S1, HDS, hidden rfl⟩
      case round =>
        obtain ⟨rfl, hkk, dj, S2, HDJ, HE2⟩ := hrel
        clear S1
        cases gk with
        | zero =>
          go_wp2
          go_end0
          have e : dj = heapSort (ltR rk) d a b := by rw [heapSort, ← HB.out, ← HE2.out]; rfl
          exact ⟨rfl, by rw [← e]; exact S2⟩
        | succ kx =>
          have ekx : ((kx + 1 : Nat) : Int) - 1 = (kx : Int) := by omega
          have e1 : ((a : Int)).toNat = a := by omega
          have p1 : (0 : Int) ≤ (a : Int) := by omega
          have b1 : (a : Int) < (d.size : Int) := by omega
          have r1 : IntKind.i64.wrap ((a : Int)) = (a : Int) := by rw [IntKind.wrap_i64]; omega
          have e2 : ((a : Int) + (kx : Int)).toNat = a + kx := by omega
          have p2 : (0 : Int) ≤ (a : Int) + (kx : Int) := by omega
          have b2 : (a : Int) + (kx : Int) < (d.size : Int) := by omega
          have r2 : IntKind.i64.wrap ((a : Int) + (kx : Int)) = (a : Int) + (kx : Int) := by rw [IntKind.wrap_i64]; omega
          have k1 : a < dj.size := by rw [HDJ.out]; omega
          have k2 : a + kx < dj.size := by rw [HDJ.out]; omega
          have hd2 : (swp dj a (a + kx)).size = d.size := by rw [size_swp]; exact HDJ.out
          have HD2 := hidden hd2
          clear hd2
          go_wp2_with fail
          obtain ⟨sx, sy, u2, u3, u4, l1, l2, l3, l4, f1, f2, f3, f4, g2, g3, g4, S3⟩ := S2.swapAll (a) (a + kx) (by assumption) (by assumption)
          clear S2
          go_wp2_with fail
          go_region
          clear l1 l2 l3 l4 f1 f2 f3 f4 g2 g3 g4
          generalize (World.drew _) = w9 at S3 ⊢
          have hc := siftDownC B blk off cap w0 R 0 kx a (swp dj a (a + kx)) w9 S3.out (Nat.zero_le _) (by rw [HD2.out]; omega) (by rw [HD2.out]; exact hsz)
          rw [HD2.out] at hc
          clear S3 k1 k2
          go_wp2_with fail
          refine hc.mono ?_
          rintro e w4 ⟨rfl, S4⟩
          clear hc
          go_wp2
          go_roundg kx
          case measure => omega
          case rel => exact ⟨by simp, by omega, _, S4, hidden (by rw [size_siftDown (ltR rk) _ _ _ _ _ (Nat.le_refl _)]; exact HD2.out), HE2⟩
    | succ kx =>
      have hc := siftDownC B blk off cap w0 R kx (b - a) a dk wr S1 (by omega) (by rw [HDS.out]; omega) (by rw [HDS.out]; exact hsz)
      rw [ecast, HDS.out] at hc
      have ekx : ((kx + 1 : Nat) : Int) - 1 = (kx : Int) := by omega
      clear S1
      go_wp2_with fail
      refine hc.mono ?_
      rintro e w4 ⟨rfl, S4⟩
      clear hc
      go_wp2
      go_roundg kx
      case measure => omega
      case rel => exact ⟨by simp, by omega, _, S4, hidden (by rw [size_siftDown (ltR rk) _ _ _ _ _ (Nat.le_refl _)]; exact HDS.out), HE⟩

set_option maxHeartbeats 2000000 in
set_option maxRecDepth 1000000 in
theorem heapSortO (blk off cap : Nat) (w0 : World) (a b : Nat) (d : Array (Int)) (w : World) (S : SO w0 blk off d w) (hab : a ≤ b) (hb : b ≤ d.size) (hsz : d.size < 1152921504606846976) :
    Calls Try.prog 63 #[.slice (some ⟨blk, off, none⟩) d.size cap, .int .i64 a, .int .i64 b] w fun e w' => e = .returned (.tuple #[]) ∧ SO w0 blk off (heapSort ltInt d a b) w' := by
  have ecast : ((b - a : Nat) : Int) = (b : Int) - (a : Int) := by omega
  go_enter Try.func63, Try.ntmps63
  go_wp2
  go_loopg [9] ((b - a - 1) / 2 + 1) (fun kx s11 wr => s11 = .int .i64 ((kx : Int) - 1) ∧ kx ≤ (b - a - 1) / 2 + 1 ∧ ∃ (dk : Array (Int)), SO w0 blk off dk wr ∧ Hid (dk.size = d.size) ∧
    Hid (heapBuild ltInt (b - a) a kx dk = heapBuild ltInt (b - a) a ((b - a - 1) / 2 + 1) d))
  case atStart => exact ⟨by rw [half_start hab], Nat.le_refl _, d, S, hidden rfl, hidden rfl⟩
  case round =>
    obtain ⟨rfl, hkk, dk, S1, HDS, HE⟩ := hrel
    clear S
    cases gk with
    | zero =>
      have HB := hidden (show dk = heapBuild ltInt (b - a) a ((b - a - 1) / 2 + 1) d from HE.out)
      clear HE hkk
      go_wp2
      go_loopg [10] (b - a) (fun kx s12 wr2 => s12 = .int .i64 ((kx : Int) - 1) ∧ kx ≤ b - a ∧ ∃ (dj : Array (Int)), SO w0 blk off dj wr2 ∧ Hid (dj.size = d.size) ∧ Hid (heapPop ltInt a kx dj = heapPop ltInt a (b - a) dk))
      case atStart => exact ⟨by rw [ecast], Nat.le_refl _, dk, S1, HDS, hidden rfl⟩
      case round =>
        obtain ⟨rfl, hkk, dj, S2, HDJ, HE2⟩ := hrel
        clear S1
        cases gk with
        | zero =>
          go_wp2
          go_end0
          have e : dj = heapSort ltInt d a b := by rw [heapSort, ← HB.out, ← HE2.out]; rfl
          exact ⟨rfl, by rw [← e]; exact S2⟩
        | succ kx =>
          have ekx : ((kx + 1 : Nat) : Int) - 1 = (kx : Int) := by omega
          have e1 : ((a : Int)).toNat = a := by omega
          have p1 : (0 : Int) ≤ (a : Int) := by omega
          have b1 : (a : Int) < (d.size : Int) := by omega
          have r1 : IntKind.i64.wrap ((a : Int)) = (a : Int) := by rw [IntKind.wrap_i64]; omega
          have e2 : ((a : Int) + (kx : Int)).toNat = a + kx := by omega
          have p2 : (0 : Int) ≤ (a : Int) + (kx : Int) := by omega
          have b2 : (a : Int) + (kx : Int) < (d.size : Int) := by omega
          have r2 : IntKind.i64.wrap ((a : Int) + (kx : Int)) = (a : Int) + (kx : Int) := by rw [IntKind.wrap_i64]; omega
          have k1 : a < dj.size := by rw [HDJ.out]; omega
          have k2 : a + kx < dj.size := by rw [HDJ.out]; omega
          have hd2 : (swp dj a (a + kx)).size = d.size := by rw [size_swp]; exact HDJ.out
          have HD2 := hidden hd2
          clear hd2
          go_wp2_with fail
          obtain ⟨sx, sy, u2, l1, l2, f1, f2, g2, S3⟩ := S2.swapAll (a) (a + kx) (by assumption) (by assumption)
          clear S2
          go_wp2_with fail
          go_region
          clear l1 l2 f1 f2 g2
          generalize (World.drew _) = w9 at S3 ⊢
          have hc := siftDownO blk off cap w0 0 kx a (swp dj a (a + kx)) w9 S3.out (Nat.zero_le _) (by rw [HD2.out]; omega) (by rw [HD2.out]; exact hsz)
          rw [HD2.out] at hc
          clear S3 k1 k2
          go_wp2_with fail
          refine hc.mono ?_
          rintro e w4 ⟨rfl, S4⟩
          clear hc
          go_wp2
          go_roundg kx
          case measure => omega
          case rel => exact ⟨by simp, by omega, _, S4, hidden (by rw [size_siftDown ltInt _ _ _ _ _ (Nat.le_refl _)]; exact HD2.out), HE2⟩
    | succ kx =>
      have hc := siftDownO blk off cap w0 kx (b - a) a dk wr S1 (by omega) (by rw [HDS.out]; omega) (by rw [HDS.out]; exact hsz)
      rw [ecast, HDS.out] at hc
      have ekx : ((kx + 1 : Nat) : Int) - 1 = (kx : Int) := by omega
      clear S1
      go_wp2_with fail
      refine hc.mono ?_
      rintro e w4 ⟨rfl, S4⟩
      clear hc
      go_wp2
      go_roundg kx
      case measure => omega
      case rel => exact ⟨by simp, by omega, _, S4, hidden (by rw [size_siftDown ltInt _ _ _ _ _ (Nat.le_refl _)]; exact HDS.out), HE⟩

end Go.Proofs.Ytfkhfkbkjiekkaa
