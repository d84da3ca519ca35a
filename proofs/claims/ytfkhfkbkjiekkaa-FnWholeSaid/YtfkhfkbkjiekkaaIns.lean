/-
  Insertion sort, in both families.
-/
import Derived.Test.YtfkhfkbkjiekkaaKitO
import Derived.BigRegion
namespace Go.Proofs.Ytfkhfkbkjiekkaa
open Go.RowKit Go.Sort

set_option maxHeartbeats 2000000 in
set_option maxRecDepth 1000000 in
theorem insertionSortC {rk : Array Int} [Inhabited (It rk)] (B blk off cap : Nat) (w0 : World) (R : ∀ W, w0.grownBy W (some blk) → Ranks W B rk) (a b : Nat) (d : Array (It rk)) (w : World) (S : SC (fun x : It rk => x.1.1) w0 blk off d w) (hab : a ≤ b) (hb : b ≤ d.size) (hsz : d.size < 4611686018427387904) :
    Calls Try.prog 51 #[.slice (some ⟨blk, off, none⟩) d.size cap, .int .i64 a, .int .i64 b, .func (.func 43) #[] #[.pointer (some ⟨B, 0, none⟩)]] w fun e w' => e = .returned (.tuple #[]) ∧ SC (fun x : It rk => x.1.1) w0 blk off (Sort.insertionSort (ltR rk) d a b) w' := by
  have mixed : Try.prog.follows .mixedOrders = true := by kernel_rfl
  go_enter Try.func51, Try.ntmps51
  go_wp2
  go_loopg [8] (b - a) (fun g1 vi wr => ∃ (i : Nat) (dk : Array (It rk)), vi = .int .i64 i ∧ a < i ∧ i ≤ b + 1 ∧ b + 1 - i ≤ g1 + 1 ∧ dk.size = d.size ∧ SC (fun x : It rk => x.1.1) w0 blk off dk wr ∧ Hid (insOuter (ltR rk) a b i dk = insOuter (ltR rk) a b (a + 1) d))
  case atStart => exact ⟨a + 1, d, by go_num, by omega, by omega, by omega, rfl, S, hidden rfl⟩
  case round =>
    obtain ⟨i, dk, rfl, hai, hib, hg1, hsk, S1, HO⟩ := hrel
    by_cases hlt : i < b
    · have hltz : (i : Int) < (b : Int) := by omega
      have HSK := hidden hsk
      clear hsk
      go_wp2
      go_loopg [9] i (fun g2 vj wr2 => ∃ (j : Nat) (dj : Array (It rk)), vj = .int .i64 j ∧ a ≤ j ∧ j ≤ i ∧ j ≤ g2 ∧ dj.size = d.size ∧ SC (fun x : It rk => x.1.1) w0 blk off dj wr2 ∧ Hid (insInner (ltR rk) a j dj = insInner (ltR rk) a i dk))
      case atStart => exact ⟨i, dk, rfl, by omega, Nat.le_refl _, Nat.le_refl _, HSK.out, S1, hidden rfl⟩
      case round =>
        obtain ⟨j, dj, rfl, haj, hji, hg2, hsj, S2, HI⟩ := hrel
        have hout : insOuter (ltR rk) a b i dk = insOuter (ltR rk) a b (i + 1) (insInner (ltR rk) a i dk) := by rw [insOuter, if_pos hlt]
        have HOUT := hidden hout
        clear hout S1
        by_cases hja : a < j
        · obtain ⟨jp, rfl⟩ : ∃ jp, j = jp + 1 := ⟨j - 1, by omega⟩
          have q1 : (a : Int) < (jp : Int) + 1 := by omega
          have e1 : ((jp : Int) + 1).toNat = jp + 1 := by omega
          have p1 : (0 : Int) ≤ (jp : Int) + 1 := by omega
          have b1 : (jp : Int) + 1 < (d.size : Int) := by omega
          have r1 : IntKind.i64.wrap ((jp : Int) + 1) = (jp : Int) + 1 := by rw [IntKind.wrap_i64]; omega
          have e2 : ((jp : Int)).toNat = jp := by omega
          have p2 : (0 : Int) ≤ (jp : Int) := by omega
          have b2 : (jp : Int) < (d.size : Int) := by omega
          have r2 : IntKind.i64.wrap ((jp : Int)) = (jp : Int) := by rw [IntKind.wrap_i64]; omega
          have k1 : jp + 1 < dj.size := by omega
          have k2 : jp < dj.size := by omega
          have hin : insInner (ltR rk) a (jp + 1) dj = if (ltR rk) dj[jp + 1]! dj[jp]! then insInner (ltR rk) a jp (swp dj (jp + 1) jp) else dj := by
            rw [insInner]
            have : decide (jp + 1 > a) = true := decide_eq_true hja
            rw [this, Bool.true_and]
          have HIN := hidden hin
          have HSJ := hidden hsj
          clear hin hsj
          cases hlv : (ltR rk) dj[jp + 1]! dj[jp]! with
          | true =>
            have HLV := hidden hlv
            obtain ⟨cx, cy, cv, l1, l2, l3, l4, hc, hvi, SG⟩ := S2.cmpAll R (jp + 1) (jp) (by assumption) (by assumption)
            have hv : cv < 0 := hvi.2 hlv
            have hdv : decide (cv < 0) = true := decide_eq_true hv
            clear hvi
            go_wp2_with fail
            go_quiet_grown (first | (go_at_call 43; refine Calls.grown_of (hc _ _)))
            have S3 := hidden (SG.out nq osq)
            clear l1 l2 l3 l4 hc SG
            generalize grow (wr.drewN nq) osq = w3 at S3 ⊢
            clear hv hdv hlv
            have S4 := S3.out
            clear S3 S2
            obtain ⟨sx, sy, u2, u3, u4, l1, l2, l3, l4, f1, f2, f3, f4, g2, g3, g4, S5⟩ := S4.swapAll (jp + 1) (jp) (by assumption) (by assumption)
            clear S4
            go_wp2_with fail
            go_region
            clear l1 l2 l3 l4 f1 f2 f3 f4 g2 g3 g4
            generalize (World.drew _) = w4 at S5 ⊢
            go_wp2
            go_roundg jp
            case measure => omega
            case rel => exact ⟨jp, swp dj (jp + 1) jp, by go_num, by omega, by omega, Nat.le_refl _, by rw [size_swp]; exact HSJ.out, S5.out, hidden (by rw [← HI.out, HIN.out, HLV.out, if_pos rfl])⟩
          | false =>
            have HLV := hidden hlv
            obtain ⟨cx, cy, cv, l1, l2, l3, l4, hc, hvi, SG⟩ := S2.cmpAll R (jp + 1) (jp) (by assumption) (by assumption)
            have hv : ¬ cv < 0 := fun e => by rw [hvi.1 e] at hlv; cases hlv
            have hdv : decide (cv < 0) = false := decide_eq_false hv
            clear hvi
            go_wp2_with fail
            go_quiet_grown (first | (go_at_call 43; refine Calls.grown_of (hc _ _)))
            have S3 := hidden (SG.out nq osq)
            clear l1 l2 l3 l4 hc SG
            generalize grow (wr.drewN nq) osq = w3 at S3 ⊢
            clear hv hdv hlv
            go_wp2
            go_roundg (b - (i + 1))
            case measure => omega
            case rel => exact ⟨i + 1, dj, by go_num, by omega, by omega, by omega, HSJ.out, S3.out, hidden (by rw [← HO.out, HOUT.out, ← HI.out, HIN.out, HLV.out, if_neg (by simp)])⟩
        · have hjz : decide ((j : Int) > (a : Int)) = false := decide_eq_false (by omega)
          have hjz' : ¬ (a : Int) < (j : Int) := by omega
          have hin : insInner (ltR rk) a j dj = dj := by
            cases j with
            | zero => rfl
            | succ jp =>
              rw [insInner]
              have : decide (jp + 1 > a) = false := decide_eq_false hja
              rw [this]
              simp
          have HIN := hidden hin
          have HSJ := hidden hsj
          have S3 := hidden S2.drew
          clear hin hsj S2
          go_wp2_with fail
          go_region
          generalize (World.drew _) = w3 at S3 ⊢
          go_wp2
          go_roundg (b - (i + 1))
          case measure => omega
          case rel => exact ⟨i + 1, dj, by go_num, by omega, by omega, by omega, HSJ.out, S3.out, hidden (by rw [← HO.out, HOUT.out, ← HI.out, HIN.out])⟩
    · have hltz : ¬ (i : Int) < (b : Int) := by omega
      have hout : insOuter (ltR rk) a b i dk = dk := by rw [insOuter, if_neg hlt]
      go_wp2
      go_end0
      exact ⟨rfl, by unfold Sort.insertionSort; rw [← HO.out, hout]; exact S1⟩

set_option maxHeartbeats 2000000 in
set_option maxRecDepth 1000000 in
theorem insertionSortO (blk off cap : Nat) (w0 : World) (a b : Nat) (d : Array (Int)) (w : World) (S : SO w0 blk off d w) (hab : a ≤ b) (hb : b ≤ d.size) (hsz : d.size < 4611686018427387904) :
    Calls Try.prog 62 #[.slice (some ⟨blk, off, none⟩) d.size cap, .int .i64 a, .int .i64 b] w fun e w' => e = .returned (.tuple #[]) ∧ SO w0 blk off (Sort.insertionSort ltInt d a b) w' := by
  have mixed : Try.prog.follows .mixedOrders = true := by kernel_rfl
  go_enter Try.func62, Try.ntmps62
  go_wp2
  go_loopg [6] (b - a) (fun g1 vi wr => ∃ (i : Nat) (dk : Array (Int)), vi = .int .i64 i ∧ a < i ∧ i ≤ b + 1 ∧ b + 1 - i ≤ g1 + 1 ∧ dk.size = d.size ∧ SO w0 blk off dk wr ∧ Hid (insOuter ltInt a b i dk = insOuter ltInt a b (a + 1) d))
  case atStart => exact ⟨a + 1, d, by go_num, by omega, by omega, by omega, rfl, S, hidden rfl⟩
  case round =>
    obtain ⟨i, dk, rfl, hai, hib, hg1, hsk, S1, HO⟩ := hrel
    by_cases hlt : i < b
    · have hltz : (i : Int) < (b : Int) := by omega
      have HSK := hidden hsk
      clear hsk
      go_wp2
      go_loopg [7] i (fun g2 vj wr2 => ∃ (j : Nat) (dj : Array (Int)), vj = .int .i64 j ∧ a ≤ j ∧ j ≤ i ∧ j ≤ g2 ∧ dj.size = d.size ∧ SO w0 blk off dj wr2 ∧ Hid (insInner ltInt a j dj = insInner ltInt a i dk))
      case atStart => exact ⟨i, dk, rfl, by omega, Nat.le_refl _, Nat.le_refl _, HSK.out, S1, hidden rfl⟩
      case round =>
        obtain ⟨j, dj, rfl, haj, hji, hg2, hsj, S2, HI⟩ := hrel
        have hout : insOuter ltInt a b i dk = insOuter ltInt a b (i + 1) (insInner ltInt a i dk) := by rw [insOuter, if_pos hlt]
        have HOUT := hidden hout
        clear hout S1
        by_cases hja : a < j
        · obtain ⟨jp, rfl⟩ : ∃ jp, j = jp + 1 := ⟨j - 1, by omega⟩
          have q1 : (a : Int) < (jp : Int) + 1 := by omega
          have e1 : ((jp : Int) + 1).toNat = jp + 1 := by omega
          have p1 : (0 : Int) ≤ (jp : Int) + 1 := by omega
          have b1 : (jp : Int) + 1 < (d.size : Int) := by omega
          have r1 : IntKind.i64.wrap ((jp : Int) + 1) = (jp : Int) + 1 := by rw [IntKind.wrap_i64]; omega
          have e2 : ((jp : Int)).toNat = jp := by omega
          have p2 : (0 : Int) ≤ (jp : Int) := by omega
          have b2 : (jp : Int) < (d.size : Int) := by omega
          have r2 : IntKind.i64.wrap ((jp : Int)) = (jp : Int) := by rw [IntKind.wrap_i64]; omega
          have k1 : jp + 1 < dj.size := by omega
          have k2 : jp < dj.size := by omega
          have hin : insInner ltInt a (jp + 1) dj = if ltInt dj[jp + 1]! dj[jp]! then insInner ltInt a jp (swp dj (jp + 1) jp) else dj := by
            rw [insInner]
            have : decide (jp + 1 > a) = true := decide_eq_true hja
            rw [this, Bool.true_and]
          have HIN := hidden hin
          have HSJ := hidden hsj
          clear hin hsj
          cases hlv : ltInt dj[jp + 1]! dj[jp]! with
          | true =>
            have HLV := hidden hlv
            obtain ⟨cx, cy, l1, l2, hvi, SG⟩ := S2.cmpAll (jp + 1) (jp) (by assumption) (by assumption)
            have hv : cx < cy := hvi.2 hlv
            have hdv : decide (cx < cy) = true := decide_eq_true hv
            clear hvi
            go_wp2_with fail
            go_quiet ((go_at_call 44; exact Calls.quiet_of_same (less_any _ _ _)))
            have S3 := hidden (SG.out nq)
            clear l1 l2 SG
            generalize wr.drewN nq = w3 at S3 ⊢
            clear hv hdv hlv
            have S4 := S3.out
            clear S3 S2
            obtain ⟨sx, sy, u2, l1, l2, f1, f2, g2, S5⟩ := S4.swapAll (jp + 1) (jp) (by assumption) (by assumption)
            clear S4
            go_wp2_with fail
            go_region
            clear l1 l2 f1 f2 g2
            generalize (World.drew _) = w4 at S5 ⊢
            go_wp2
            go_roundg jp
            case measure => omega
            case rel => exact ⟨jp, swp dj (jp + 1) jp, by go_num, by omega, by omega, Nat.le_refl _, by rw [size_swp]; exact HSJ.out, S5.out, hidden (by rw [← HI.out, HIN.out, HLV.out, if_pos rfl])⟩
          | false =>
            have HLV := hidden hlv
            obtain ⟨cx, cy, l1, l2, hvi, SG⟩ := S2.cmpAll (jp + 1) (jp) (by assumption) (by assumption)
            have hv : ¬ cx < cy := fun e => by rw [hvi.1 e] at hlv; cases hlv
            have hdv : decide (cx < cy) = false := decide_eq_false hv
            clear hvi
            go_wp2_with fail
            go_quiet ((go_at_call 44; exact Calls.quiet_of_same (less_any _ _ _)))
            have S3 := hidden (SG.out nq)
            clear l1 l2 SG
            generalize wr.drewN nq = w3 at S3 ⊢
            clear hv hdv hlv
            go_wp2
            go_roundg (b - (i + 1))
            case measure => omega
            case rel => exact ⟨i + 1, dj, by go_num, by omega, by omega, by omega, HSJ.out, S3.out, hidden (by rw [← HO.out, HOUT.out, ← HI.out, HIN.out, HLV.out, if_neg (by simp)])⟩
        · have hjz : decide ((j : Int) > (a : Int)) = false := decide_eq_false (by omega)
          have hjz' : ¬ (a : Int) < (j : Int) := by omega
          have hin : insInner ltInt a j dj = dj := by
            cases j with
            | zero => rfl
            | succ jp =>
              rw [insInner]
              have : decide (jp + 1 > a) = false := decide_eq_false hja
              rw [this]
              simp
          have HIN := hidden hin
          have HSJ := hidden hsj
          have S3 := hidden S2.drew
          clear hin hsj S2
          go_wp2_with fail
          go_region
          generalize (World.drew _) = w3 at S3 ⊢
          go_wp2
          go_roundg (b - (i + 1))
          case measure => omega
          case rel => exact ⟨i + 1, dj, by go_num, by omega, by omega, by omega, HSJ.out, S3.out, hidden (by rw [← HO.out, HOUT.out, ← HI.out, HIN.out])⟩
    · have hltz : ¬ (i : Int) < (b : Int) := by omega
      have hout : insOuter ltInt a b i dk = dk := by rw [insOuter, if_neg hlt]
      go_wp2
      go_end0
      exact ⟨rfl, by unfold Sort.insertionSort; rw [← HO.out, hout]; exact S1⟩

end Go.Proofs.Ytfkhfkbkjiekkaa
