/-
  Two rows in order merged by turning: symMerge.
-/
import Derived.Test.YtfkhfkbkjiekkaaRot
import Derived.BigRegion
import Derived.Deep.CutRange
import Derived.Deep.CutBlock
namespace Go.Proofs.Ytfkhfkbkjiekkaa
open Go.RowKit Go.Sort

set_option maxHeartbeats 2000000 in
set_option maxRecDepth 1000000 in
theorem symMergeC {rk : Array Int} [Inhabited (It rk)] (B blk off cap : Nat) (w0 : World) (R : ∀ W, w0.grownBy W (some blk) → Ranks W B rk) (T : It rk → It rk → Bool) (hT : SWO T) : ∀ (N a m b : Nat) (d : Array (It rk)) (w : World) (_ : SC (fun x : It rk => x.1.1) w0 blk off d w) (_ : b - a ≤ N) (_ : a < m) (_ : m < b) (_ : b ≤ d.size) (_ : d.size < 4611686018427387904) (_ : Half (ltR rk) T a m b d),
    Calls Try.prog 52 #[.slice (some ⟨blk, off, none⟩) d.size cap, .int .i64 a, .int .i64 m, .int .i64 b, .func (.func 43) #[] #[.pointer (some ⟨B, 0, none⟩)]] w fun e w' => e = .returned (.tuple #[]) ∧ ∃ d' : Array (It rk), PermIn a b d d' ∧ SortedIn T a b d' ∧ SC (fun x : It rk => x.1.1) w0 blk off d' w' := by
  have mixed : Try.prog.follows .mixedOrders = true := by kernel_rfl
  intro N
  induction N with
  | zero => intro a m b d w _ h1 h2 h3; omega
  | succ N ih =>
  intro a m b d w S hN ham hmb hb hsz H
  have HH := hidden H
  have IH := hidden ih
  clear H ih
  by_cases hA : m = a + 1
  · have z1 : (m : Int) - (a : Int) = 1 := by omega
    have HA := hidden hA
    clear hA
    go_enter Try.func52, Try.ntmps52
    go_wp2
    go_loopg [10, 11] (b - m) (fun g1 vi vj wr => ∃ (i j : Nat), vi = .int .i64 i ∧ vj = .int .i64 j ∧ m ≤ i ∧ i ≤ j ∧ j ≤ b ∧ j - i ≤ g1 ∧ SC (fun x : It rk => x.1.1) w0 blk off d wr ∧ Hid (i = a + 1 ∨ T d[i - 1]! d[a]! = true) ∧ Hid (j = b ∨ T d[j]! d[a]! = false))
    case atStart => exact ⟨m, b, rfl, rfl, by omega, by omega, by omega, by omega, S, hidden (Or.inl HA.out), hidden (Or.inl rfl)⟩
    case round =>
      obtain ⟨i, j, rfl, rfl, hmi, hij, hjb, hg1, S1, HL, HU⟩ := hrel
      clear S
      by_cases hlt : i < j
      · obtain ⟨h, hh⟩ : ∃ h, (i + j) / 2 = h := ⟨_, rfl⟩
        have hz : ((i : Int) + (j : Int)) / 2 = (h : Int) := by omega
        have hltz : (i : Int) < (j : Int) := by omega
        have h1 : i ≤ h := by omega
        have h2 : h < j := by omega
        have k1 : h < d.size := by omega
        have k2 : a < d.size := by omega
        have bh : (h : Int) < (d.size : Int) := by omega
        have ba : (a : Int) < (d.size : Int) := by omega
        have rh : IntKind.i64.wrap ((h : Int) + 1) = (h : Int) + 1 := by rw [IntKind.wrap_i64]; omega
        cases hlv : ltR rk d[h]! d[a]! with
        | true =>
          have HT := hidden ((HH.out.tie a h (Nat.le_refl _) ham (by omega) (by omega)).symm.trans hlv)
          obtain ⟨cx, cy, cv, l1, l2, l3, l4, hc, hvi, SG⟩ := S1.cmpAll R (h) (a) (by assumption) (by assumption)
          have hv : cv < 0 := hvi.2 hlv
          have hdv : decide (cv < 0) = true := decide_eq_true hv
          clear hvi
          go_wp2_with fail
          go_quiet_grown (first | (go_at_call 43; refine Calls.grown_of (hc _ _)))
          have S2 := hidden (SG.out nq osq)
          clear l1 l2 l3 l4 hc SG
          generalize grow (wr.drewN nq) osq = w2 at S2 ⊢
          clear hv hdv hlv
          go_wp2
          go_roundg (j - (h + 1))
          case measure => omega
          case rel => exact ⟨h + 1, j, by go_num, rfl, by omega, by omega, by omega, Nat.le_refl _, S2.out, hidden (Or.inr HT.out), HU⟩
        | false =>
          have HT := hidden ((HH.out.tie a h (Nat.le_refl _) ham (by omega) (by omega)).symm.trans hlv)
          obtain ⟨cx, cy, cv, l1, l2, l3, l4, hc, hvi, SG⟩ := S1.cmpAll R (h) (a) (by assumption) (by assumption)
          have hv : ¬ cv < 0 := fun e => by rw [hvi.1 e] at hlv; cases hlv
          have hdv : decide (cv < 0) = false := decide_eq_false hv
          clear hvi
          go_wp2_with fail
          go_quiet_grown (first | (go_at_call 43; refine Calls.grown_of (hc _ _)))
          have S2 := hidden (SG.out nq osq)
          clear l1 l2 l3 l4 hc SG
          generalize grow (wr.drewN nq) osq = w2 at S2 ⊢
          clear hv hdv hlv
          go_wp2
          go_roundg (h - i)
          case measure => omega
          case rel => exact ⟨i, h, rfl, rfl, by omega, by omega, by omega, Nat.le_refl _, S2.out, HL, hidden (Or.inr HT.out)⟩
      · have hltz : ¬ (i : Int) < (j : Int) := by omega
        obtain rfl : i = j := by omega
        clear z1
        go_wp2
        go_loopg [13] (i - a) (fun g2 vk wr => ∃ (k : Nat) (dk : Array (It rk)), vk = .int .i64 k ∧ a ≤ k ∧ k + 1 ≤ i ∧ i - k ≤ g2 ∧ SC (fun x : It rk => x.1.1) w0 blk off dk wr ∧ Hid (Via (rotIdx a (a + 1) (k + 1)) d dk))
        case atStart => exact ⟨a, d, rfl, Nat.le_refl _, by have := HA.out; omega, by omega, S1, hidden (rot_none d (Or.inr rfl) (by omega) (Nat.le_refl _))⟩
        case round =>
          obtain ⟨k, dk, rfl, hak, hki, hg2, S3, HV⟩ := hrel
          clear S1
          have w1 : IntKind.i64.wrap ((i : Int) - 1) = (i : Int) - 1 := by rw [IntKind.wrap_i64]; omega
          have hs := HV.out.1
          by_cases hkl : k + 1 < i
          · have hklz : (k : Int) < (i : Int) - 1 := by omega
            have e1 : ((k : Int)).toNat = k := by omega
            have p1 : (0 : Int) ≤ (k : Int) := by omega
            have b1 : (k : Int) < (d.size : Int) := by omega
            have r1 : IntKind.i64.wrap ((k : Int)) = (k : Int) := by rw [IntKind.wrap_i64]; omega
            have e2 : ((k : Int) + 1).toNat = k + 1 := by omega
            have p2 : (0 : Int) ≤ (k : Int) + 1 := by omega
            have b2 : (k : Int) + 1 < (d.size : Int) := by omega
            have r2 : IntKind.i64.wrap ((k : Int) + 1) = (k : Int) + 1 := by rw [IntKind.wrap_i64]; omega
            have k1 : k < dk.size := by omega
            have k2 : k + 1 < dk.size := by omega
            clear hs
            obtain ⟨sx, sy, u2, u3, u4, l1, l2, l3, l4, f1, f2, f3, f4, g2, g3, g4, S4⟩ := S3.swapAll (k) (k + 1) (by assumption) (by assumption)
            clear S3
            go_wp2_with fail
            go_region
            clear l1 l2 l3 l4 f1 f2 f3 f4 g2 g3 g4
            generalize (World.drew _) = w2 at S4 ⊢
            go_wp2
            go_roundg (i - (k + 1))
            case measure => omega
            case rel => exact ⟨k + 1, swp dk k (k + 1), by go_num, by omega, by omega, Nat.le_refl _, S4.out, hidden (up_step a k HV.out hak (by omega))⟩
          · have hklz : ¬ (k : Int) < (i : Int) - 1 := by omega
            go_wp2
            (try simp only [Exit.inBlock, Exit.then]); refine bodyPost_ret (results_none rfl _ _ _) rfl ?_
            have hki' : k + 1 = i := by omega
            have hm := mergeA hT (a := a) (b := b) (i := i) (d := d) (e := dk) (by rw [← HA.out]; exact HH.out.right) (by omega) hjb hb HL.out HU.out (by rw [← hki']; exact HV.out)
            exact ⟨rfl, dk, hm.1, hm.2, S3⟩
  by_cases hB : b = m + 1
  · have z1 : ((m : Int) - (a : Int) == 1) = false := by rw [beq_eq_false_iff_ne]; omega
    have z1' : ¬ (m : Int) - (a : Int) = 1 := by omega
    have z2 : (b : Int) - (m : Int) = 1 := by omega
    have HB := hidden hB
    clear hB hA
    go_enter Try.func52, Try.ntmps52
    go_wp2
    go_loopg [14, 15] (m - a) (fun g1 vi vj wr => ∃ (i j : Nat), vi = .int .i64 i ∧ vj = .int .i64 j ∧ a ≤ i ∧ i ≤ j ∧ j ≤ m ∧ j - i ≤ g1 ∧ SC (fun x : It rk => x.1.1) w0 blk off d wr ∧ Hid (i = a ∨ T d[m]! d[i - 1]! = false) ∧ Hid (j = m ∨ T d[m]! d[j]! = true))
    case atStart => exact ⟨a, m, rfl, rfl, by omega, by omega, by omega, by omega, S, hidden (Or.inl rfl), hidden (Or.inl rfl)⟩
    case round =>
      obtain ⟨i, j, rfl, rfl, hmi, hij, hjb, hg1, S1, HL, HU⟩ := hrel
      clear S z1 z1' z2
      by_cases hlt : i < j
      · obtain ⟨h, hh⟩ : ∃ h, (i + j) / 2 = h := ⟨_, rfl⟩
        have hz : ((i : Int) + (j : Int)) / 2 = (h : Int) := by omega
        have hltz : (i : Int) < (j : Int) := by omega
        have h1 : i ≤ h := by omega
        have h2 : h < j := by omega
        have k1 : h < d.size := by omega
        have k2 : m < d.size := by omega
        have bh : (h : Int) < (d.size : Int) := by omega
        have ba : (m : Int) < (d.size : Int) := by omega
        have rh : IntKind.i64.wrap ((h : Int) + 1) = (h : Int) + 1 := by rw [IntKind.wrap_i64]; omega
        cases hlv : ltR rk d[m]! d[h]! with
        | false =>
          have HT := hidden ((HH.out.tie h m (by omega) (by omega) (by omega) (by omega)).symm.trans hlv)
          obtain ⟨cx, cy, cv, l1, l2, l3, l4, hc, hvi, SG⟩ := S1.cmpAll R (m) (h) (by assumption) (by assumption)
          have hv : ¬ cv < 0 := fun e => by rw [hvi.1 e] at hlv; cases hlv
          have hdv : decide (cv < 0) = false := decide_eq_false hv
          clear hvi
          go_wp2_with fail
          go_quiet_grown (first | (go_at_call 43; refine Calls.grown_of (hc _ _)))
          have S2 := hidden (SG.out nq osq)
          clear l1 l2 l3 l4 hc SG
          generalize grow (wr.drewN nq) osq = w2 at S2 ⊢
          clear hv hdv hlv
          go_wp2
          go_roundg (j - (h + 1))
          case measure => omega
          case rel => exact ⟨h + 1, j, by go_num, rfl, by omega, by omega, by omega, Nat.le_refl _, S2.out, hidden (Or.inr HT.out), HU⟩
        | true =>
          have HT := hidden ((HH.out.tie h m (by omega) (by omega) (by omega) (by omega)).symm.trans hlv)
          obtain ⟨cx, cy, cv, l1, l2, l3, l4, hc, hvi, SG⟩ := S1.cmpAll R (m) (h) (by assumption) (by assumption)
          have hv : cv < 0 := hvi.2 hlv
          have hdv : decide (cv < 0) = true := decide_eq_true hv
          clear hvi
          go_wp2_with fail
          go_quiet_grown (first | (go_at_call 43; refine Calls.grown_of (hc _ _)))
          have S2 := hidden (SG.out nq osq)
          clear l1 l2 l3 l4 hc SG
          generalize grow (wr.drewN nq) osq = w2 at S2 ⊢
          clear hv hdv hlv
          go_wp2
          go_roundg (h - i)
          case measure => omega
          case rel => exact ⟨i, h, rfl, rfl, by omega, by omega, by omega, Nat.le_refl _, S2.out, HL, hidden (Or.inr HT.out)⟩
      · have hltz : ¬ (i : Int) < (j : Int) := by omega
        obtain rfl : i = j := by omega
        go_wp2
        go_loopg [17] (m - i) (fun g2 vk wr => ∃ (k : Nat) (dk : Array (It rk)), vk = .int .i64 k ∧ i ≤ k ∧ k ≤ m ∧ k - i ≤ g2 ∧ SC (fun x : It rk => x.1.1) w0 blk off dk wr ∧ Hid (Via (rotIdx k m (m + 1)) d dk))
        case atStart => exact ⟨m, d, rfl, by omega, Nat.le_refl _, by omega, S1, hidden (rot_none d (Or.inl rfl) (Nat.le_refl _) (by omega))⟩
        case round =>
          obtain ⟨k, dk, rfl, hak, hki, hg2, S3, HV⟩ := hrel
          clear S1
          have hs := HV.out.1
          by_cases hkl : i < k
          · obtain ⟨kp, rfl⟩ : ∃ kp, k = kp + 1 := ⟨k - 1, by omega⟩
            have hklz : (i : Int) < (kp : Int) + 1 := by omega
            have e3 : ((kp : Int)).toNat = kp := by omega
            have p3 : (0 : Int) ≤ (kp : Int) := by omega
            have b3 : (kp : Int) < (d.size : Int) := by omega
            have r3 : IntKind.i64.wrap ((kp : Int)) = (kp : Int) := by rw [IntKind.wrap_i64]; omega
            have e4 : ((kp : Int) + 1).toNat = kp + 1 := by omega
            have p4 : (0 : Int) ≤ (kp : Int) + 1 := by omega
            have b4 : (kp : Int) + 1 < (d.size : Int) := by omega
            have r4 : IntKind.i64.wrap ((kp : Int) + 1) = (kp : Int) + 1 := by rw [IntKind.wrap_i64]; omega
            have k1 : kp < dk.size := by omega
            have k2 : kp + 1 < dk.size := by omega
            clear hs
            obtain ⟨sx, sy, u2, u3, u4, l1, l2, l3, l4, f1, f2, f3, f4, g2, g3, g4, S4⟩ := S3.swapAll (kp + 1) (kp) (by assumption) (by assumption)
            clear S3
            go_wp2_with fail
            go_region
            clear l1 l2 l3 l4 f1 f2 f3 f4 g2 g3 g4
            generalize (World.drew _) = w2 at S4 ⊢
            go_wp2
            go_roundg (kp - i)
            case measure => omega
            case rel => exact ⟨kp, swp dk (kp + 1) kp, by go_num, by omega, by omega, Nat.le_refl _, S4.out, hidden (down_step m kp HV.out (by omega) (by omega))⟩
          · have hklz : ¬ (i : Int) < (k : Int) := by omega
            have hki' : k = i := by omega
            go_wp2
            (try simp only [Exit.inBlock, Exit.then]); refine bodyPost_ret (results_none rfl _ _ _) rfl ?_
            subst hki'
            obtain rfl : b = m + 1 := HB.out
            have hm := mergeB hT (a := a) (m := m) (i := k) (d := d) (e := dk) HH.out.left (by omega) (by omega) hb HL.out HU.out HV.out
            exact ⟨rfl, dk, hm.1, hm.2, S3⟩
  have z1 : ((m : Int) - (a : Int) == 1) = false := by rw [beq_eq_false_iff_ne]; omega
  have z1' : ¬ (m : Int) - (a : Int) = 1 := by omega
  have z2 : ((b : Int) - (m : Int) == 1) = false := by rw [beq_eq_false_iff_ne]; omega
  have z2' : ¬ (b : Int) - (m : Int) = 1 := by omega
  obtain ⟨mid, hmid⟩ : ∃ mid, (a + b) / 2 = mid := ⟨_, rfl⟩
  have hmz : ((a : Int) + (b : Int)) / 2 = (mid : Int) := by omega
  obtain ⟨n, hn1, hn2⟩ : ∃ n, n ≤ mid + m ∧ mid + m ≤ n := ⟨mid + m, Nat.le_refl _, Nat.le_refl _⟩
  have rn : (mid : Int) + (m : Int) = (n : Int) := by omega
  obtain ⟨p, hp1, hp2⟩ : ∃ p, p + 1 ≤ n ∧ n ≤ p + 1 := ⟨n - 1, by omega, by omega⟩
  have rp : (n : Int) - 1 = (p : Int) := by omega
  go_enter Try.func52, Try.ntmps52
  go_upto_if 140 with fail
  go_cut [20, 21] from 140 to 146 (fun v20 v21 wc => ∃ s0 r0 : Nat, v20 = .int .i64 s0 ∧ v21 = .int .i64 r0 ∧ a ≤ s0 ∧ s0 ≤ r0 ∧ r0 ≤ m ∧ r0 ≤ mid ∧ n ≤ b + s0 ∧ m + r0 ≤ n ∧ (s0 = a ∨ n = b + s0) ∧ (r0 = m ∨ r0 = mid) ∧ wc = w)
  case first =>
    by_cases hmm : mid < m
    · have hmmz : (mid : Int) < (m : Int) := by omega
      obtain ⟨q, hq1, hq2⟩ : ∃ q, q + b ≤ n ∧ n ≤ q + b := ⟨n - b, by omega, by omega⟩
      have r1 : (n : Int) - (b : Int) = (q : Int) := by omega
      go_wp2
      go_meet
      case rel => exact ⟨q, mid, rfl, rfl, by omega, by omega, by omega, by omega, by omega, by omega, by omega, by omega, rfl⟩
    · have hmmz : ¬ (mid : Int) < (m : Int) := by omega
      go_wp2
      go_meet
      case rel => exact ⟨a, m, rfl, rfl, by omega, by omega, by omega, by omega, by omega, by omega, by omega, by omega, rfl⟩
  case rest =>
  obtain ⟨s0, r0, rfl, rfl, q1, q2, q3, q4, q5, q6, q7, q8, rfl⟩ := hcut
  go_wp2
  go_loopg [20, 21] (r0 - s0) (fun g1 vs vr wr => ∃ (s r : Nat), vs = .int .i64 s ∧ vr = .int .i64 r ∧ s0 ≤ s ∧ s ≤ r ∧ r ≤ r0 ∧ r - s ≤ g1 ∧ SC (fun x : It rk => x.1.1) w0 blk off d wr ∧ Hid (s = s0 ∨ T d[n - s]! d[s - 1]! = false) ∧ Hid (r = r0 ∨ T d[n - 1 - r]! d[r]! = true))
  case atStart => exact ⟨s0, r0, rfl, rfl, Nat.le_refl _, q2, Nat.le_refl _, by omega, S, hidden (Or.inl rfl), hidden (Or.inl rfl)⟩
  case round =>
    obtain ⟨s, r, rfl, rfl, h1, h2, h3, hg1, S1, HL, HU⟩ := hrel
    clear S z1 z1' z2 z2' hmz rn
    by_cases hlt : s < r
    · obtain ⟨c, hc'⟩ : ∃ c, (s + r) / 2 = c := ⟨_, rfl⟩
      have hz : ((s : Int) + (r : Int)) / 2 = (c : Int) := by omega
      have hltz : (s : Int) < (r : Int) := by omega
      obtain ⟨y, hy1, hy2⟩ : ∃ y, y + c ≤ p ∧ p ≤ y + c := ⟨p - c, by omega, by omega⟩
      have ry : (p : Int) - (c : Int) = (y : Int) := by omega
      have ry2 : IntKind.i64.wrap (y : Int) = (y : Int) := by rw [IntKind.wrap_i64]; omega
      have ey : ((y : Int)).toNat = y := by omega
      have py : (0 : Int) ≤ (y : Int) := by omega
      have k1 : y < d.size := by omega
      have k2 : c < d.size := by omega
      have bh : (y : Int) < (d.size : Int) := by omega
      have ba : (c : Int) < (d.size : Int) := by omega
      have rh : IntKind.i64.wrap ((c : Int) + 1) = (c : Int) + 1 := by rw [IntKind.wrap_i64]; omega
      cases hlv : ltR rk d[y]! d[c]! with
      | false =>
        have HT := hidden ((HH.out.tie c y (by omega) (by omega) (by omega) (by omega)).symm.trans hlv)
        obtain ⟨cx, cy, cv, l1, l2, l3, l4, hc, hvi, SG⟩ := S1.cmpAll R (y) (c) (by assumption) (by assumption)
        have hv : ¬ cv < 0 := fun e => by rw [hvi.1 e] at hlv; cases hlv
        have hdv : decide (cv < 0) = false := decide_eq_false hv
        clear hvi
        go_wp2_with fail
        go_quiet_grown (first | (go_at_call 43; refine Calls.grown_of (hc _ _)))
        have S2 := hidden (SG.out nq osq)
        clear l1 l2 l3 l4 hc SG
        generalize grow (wr.drewN nq) osq = w2 at S2 ⊢
        clear hv hdv hlv
        go_wp2
        go_roundg (r - (c + 1))
        case measure => omega
        case rel => exact ⟨c + 1, r, by go_num, rfl, by omega, by omega, by omega, Nat.le_refl _, S2.out, hidden (Or.inr (by rw [show n - (c + 1) = y by omega, show c + 1 - 1 = c by omega]; exact HT.out)), HU⟩
      | true =>
        have HT := hidden ((HH.out.tie c y (by omega) (by omega) (by omega) (by omega)).symm.trans hlv)
        obtain ⟨cx, cy, cv, l1, l2, l3, l4, hc, hvi, SG⟩ := S1.cmpAll R (y) (c) (by assumption) (by assumption)
        have hv : cv < 0 := hvi.2 hlv
        have hdv : decide (cv < 0) = true := decide_eq_true hv
        clear hvi
        go_wp2_with fail
        go_quiet_grown (first | (go_at_call 43; refine Calls.grown_of (hc _ _)))
        have S2 := hidden (SG.out nq osq)
        clear l1 l2 l3 l4 hc SG
        generalize grow (wr.drewN nq) osq = w2 at S2 ⊢
        clear hv hdv hlv
        go_wp2
        go_roundg (c - s)
        case measure => omega
        case rel => exact ⟨s, c, rfl, rfl, by omega, by omega, by omega, Nat.le_refl _, S2.out, HL, hidden (Or.inr (by rw [show n - 1 - c = y by omega]; exact HT.out))⟩
    · have hltz : ¬ (s : Int) < (r : Int) := by omega
      obtain rfl : s = r := by omega
      obtain ⟨e, he1, he2⟩ : ∃ e, e + s ≤ n ∧ n ≤ e + s := ⟨n - s, by omega, by omega⟩
      have re : (n : Int) - (s : Int) = (e : Int) := by omega
      have he3 : e - m + s ≤ mid := by omega
      have he4 : mid ≤ e - m + s := by omega
      have x1 : a ≤ s := by omega
      have x2 : s ≤ m := by omega
      have x3 : m ≤ e := by omega
      have x4 : e ≤ b := by omega
      have HC : Hid (∀ d1, Via (rotIdx s m e) d d1 → Half (ltR rk) T a s mid d1 ∧ Half (ltR rk) T mid e b d1 ∧ (∀ x y, a ≤ x → x < mid → mid ≤ y → y < b → T d1[y]! d1[x]! = false) ∧ PermIn a b d d1) := hidden fun d1 V => by
        obtain ⟨m1, m2, m3⟩ := mergeC hT (mid := mid) HH.out x1 x2 x3 x4 (by omega) (by
          rcases q8 with q8 | q8
          · rcases HU.out with u | u
            · exact Or.inl (by omega)
            · exact Or.inr (Or.inr (by rw [show e - 1 = n - 1 - s by omega]; exact u))
          · rcases HU.out with u | u
            · exact Or.inr (Or.inl (by omega))
            · exact Or.inr (Or.inr (by rw [show e - 1 = n - 1 - s by omega]; exact u))) (by
          rcases HL.out with u | u
          · rcases q7 with q7 | q7
            · exact Or.inl (by omega)
            · exact Or.inr (Or.inl (by omega))
          · exact Or.inr (Or.inr (by rw [show e = n - s by omega]; exact u))) V
        exact ⟨m1, m2, m3, permIn_mono _ _ s e a b x1 x4 hb (rot_perm V x2 x3 (by omega))⟩
      clear HL HU rp
      have l1 : (mid < m ∧ s < m) ∨ ¬ mid < m := by omega
      by_cases g1 : s < m
      · by_cases g2 : m < e
        · by_cases g3 : a < s
          · by_cases g4 : e < b
            · have f1 : (s : Int) < (m : Int) := by omega
              have f2 : (m : Int) < (e : Int) := by omega
              have f3 : (a : Int) < (s : Int) := by omega
              have f4 : (s : Int) < (mid : Int) := by omega
              have f5 : (mid : Int) < (e : Int) := by omega
              have f6 : (e : Int) < (b : Int) := by omega
              have hc1 := rotateC B blk off cap w0 s m e d wr S1 (by omega) (by omega) (by omega) hsz
              go_wp2_with fail
              refine hc1.mono ?_
              rintro e1 w2 ⟨rfl, d1, V, S2⟩
              clear hc1 S1
              have hz1 : d1.size = d.size := V.1
              obtain ⟨mA, mB, mC, mD⟩ := HC.out d1 V
              have MA := hidden mA
              have MB := hidden mB
              have MC := hidden mC
              have MD := hidden mD
              clear mA mB mC mD V
              have hc2 := IH.out a s mid d1 w2 S2 (by omega) (by omega) (by omega) (by omega) (by omega) MA.out
              rw [hz1] at hc2
              clear hz1
              go_wp2_with fail
              refine hc2.mono ?_
              rintro e2 w3 ⟨rfl, d2, p2, o2, S3⟩
              have HP2 := hidden p2
              have HO2 := hidden o2
              have hz2 : d2.size = d.size := p2.1.trans MD.out.1
              clear p2 o2 hc2
              have hc3 := IH.out mid e b d2 w3 S3 (by omega) (by omega) (by omega) (by omega) (by omega) (MB.out.aside HP2.out (by omega) (Nat.le_refl _))
              rw [hz2] at hc3
              clear hz2
              go_wp2_with fail
              refine hc3.mono ?_
              rintro e3 w4 ⟨rfl, d3, p3, o3, S4⟩
              have HP3 := hidden p3
              have HO3 := hidden o3
              clear p3 o3 hc3
              go_wp2
              go_end0
              have hm := mergeEnd (a := a) (mid := mid) (b := b) (by omega) (by omega) (by rw [MD.out.1]; exact hb) MC.out HP2.out HO2.out HP3.out HO3.out
              exact ⟨rfl, d3, permIn_trans _ _ _ _ _ MD.out hm.1, hm.2, S4⟩
            · have f1 : (s : Int) < (m : Int) := by omega
              have f2 : (m : Int) < (e : Int) := by omega
              have f3 : (a : Int) < (s : Int) := by omega
              have f4 : (s : Int) < (mid : Int) := by omega
              have f5 : (mid : Int) < (e : Int) := by omega
              have f6 : ¬ (e : Int) < (b : Int) := by omega
              have hc1 := rotateC B blk off cap w0 s m e d wr S1 (by omega) (by omega) (by omega) hsz
              go_wp2_with fail
              refine hc1.mono ?_
              rintro e1 w2 ⟨rfl, d1, V, S2⟩
              clear hc1 S1
              have hz1 : d1.size = d.size := V.1
              obtain ⟨mA, mB, mC, mD⟩ := HC.out d1 V
              have MA := hidden mA
              have MB := hidden mB
              have MC := hidden mC
              have MD := hidden mD
              clear mA mB mC mD V
              have hc2 := IH.out a s mid d1 w2 S2 (by omega) (by omega) (by omega) (by omega) (by omega) MA.out
              rw [hz1] at hc2
              clear hz1
              go_wp2_with fail
              refine hc2.mono ?_
              rintro e2 w3 ⟨rfl, d2, p2, o2, S3⟩
              have HP2 := hidden p2
              have HO2 := hidden o2
              have hz2 : d2.size = d.size := p2.1.trans MD.out.1
              clear p2 o2 hc2
              have HP3 : Hid (PermIn mid b d2 d2) := hidden (permIn_refl _ _ _)
              have HO3 : Hid (SortedIn T mid b d2) := hidden ((MB.out.aside HP2.out (by omega) (Nat.le_refl _)).rightNil (by omega))
              go_wp2
              go_end0
              have hm := mergeEnd (a := a) (mid := mid) (b := b) (by omega) (by omega) (by rw [MD.out.1]; exact hb) MC.out HP2.out HO2.out HP3.out HO3.out
              exact ⟨rfl, d2, permIn_trans _ _ _ _ _ MD.out hm.1, hm.2, S3⟩
          · by_cases g4 : e < b
            · have f1 : (s : Int) < (m : Int) := by omega
              have f2 : (m : Int) < (e : Int) := by omega
              have f3 : ¬ (a : Int) < (s : Int) := by omega
              have f5 : (mid : Int) < (e : Int) := by omega
              have f6 : (e : Int) < (b : Int) := by omega
              have hc1 := rotateC B blk off cap w0 s m e d wr S1 (by omega) (by omega) (by omega) hsz
              go_wp2_with fail
              refine hc1.mono ?_
              rintro e1 w2 ⟨rfl, d1, V, S2⟩
              clear hc1 S1
              have hz1 : d1.size = d.size := V.1
              obtain ⟨mA, mB, mC, mD⟩ := HC.out d1 V
              have MA := hidden mA
              have MB := hidden mB
              have MC := hidden mC
              have MD := hidden mD
              clear mA mB mC mD V
              have HP2 : Hid (PermIn a mid d1 d1) := hidden (permIn_refl _ _ _)
              have HO2 : Hid (SortedIn T a mid d1) := hidden (MA.out.leftNil (by omega))
              have hz2 : d1.size = d.size := hz1
              have hc3 := IH.out mid e b d1 w2 S2 (by omega) (by omega) (by omega) (by omega) (by omega) (MB.out.aside HP2.out (by omega) (Nat.le_refl _))
              rw [hz2] at hc3
              clear hz2
              go_wp2_with fail
              refine hc3.mono ?_
              rintro e3 w4 ⟨rfl, d3, p3, o3, S4⟩
              have HP3 := hidden p3
              have HO3 := hidden o3
              clear p3 o3 hc3
              go_wp2
              go_end0
              have hm := mergeEnd (a := a) (mid := mid) (b := b) (by omega) (by omega) (by rw [MD.out.1]; exact hb) MC.out HP2.out HO2.out HP3.out HO3.out
              exact ⟨rfl, d3, permIn_trans _ _ _ _ _ MD.out hm.1, hm.2, S4⟩
            · have f1 : (s : Int) < (m : Int) := by omega
              have f2 : (m : Int) < (e : Int) := by omega
              have f3 : ¬ (a : Int) < (s : Int) := by omega
              have f5 : (mid : Int) < (e : Int) := by omega
              have f6 : ¬ (e : Int) < (b : Int) := by omega
              have hc1 := rotateC B blk off cap w0 s m e d wr S1 (by omega) (by omega) (by omega) hsz
              go_wp2_with fail
              refine hc1.mono ?_
              rintro e1 w2 ⟨rfl, d1, V, S2⟩
              clear hc1 S1
              have hz1 : d1.size = d.size := V.1
              obtain ⟨mA, mB, mC, mD⟩ := HC.out d1 V
              have MA := hidden mA
              have MB := hidden mB
              have MC := hidden mC
              have MD := hidden mD
              clear mA mB mC mD V
              have HP2 : Hid (PermIn a mid d1 d1) := hidden (permIn_refl _ _ _)
              have HO2 : Hid (SortedIn T a mid d1) := hidden (MA.out.leftNil (by omega))
              have hz2 : d1.size = d.size := hz1
              have HP3 : Hid (PermIn mid b d1 d1) := hidden (permIn_refl _ _ _)
              have HO3 : Hid (SortedIn T mid b d1) := hidden ((MB.out.aside HP2.out (by omega) (Nat.le_refl _)).rightNil (by omega))
              go_wp2
              go_end0
              have hm := mergeEnd (a := a) (mid := mid) (b := b) (by omega) (by omega) (by rw [MD.out.1]; exact hb) MC.out HP2.out HO2.out HP3.out HO3.out
              exact ⟨rfl, d1, permIn_trans _ _ _ _ _ MD.out hm.1, hm.2, S2⟩
        · have f1 : (s : Int) < (m : Int) := by omega
          have f2 : ¬ (m : Int) < (e : Int) := by omega
          have f3 : (a : Int) < (s : Int) := by omega
          have f4 : ¬ (s : Int) < (mid : Int) := by omega
          have f5 : (mid : Int) < (e : Int) := by omega
          have f6 : (e : Int) < (b : Int) := by omega
          have V : Via (rotIdx s m e) d d := rot_none d (by omega) x2 x3
          have hz1 : d.size = d.size := V.1
          obtain ⟨mA, mB, mC, mD⟩ := HC.out d V
          have MA := hidden mA
          have MB := hidden mB
          have MC := hidden mC
          have MD := hidden mD
          clear mA mB mC mD V
          have HP2 : Hid (PermIn a mid d d) := hidden (permIn_refl _ _ _)
          have HO2 : Hid (SortedIn T a mid d) := hidden (MA.out.rightNil (by omega))
          have hz2 : d.size = d.size := hz1
          have hc3 := IH.out mid e b d wr S1 (by omega) (by omega) (by omega) (by omega) (by omega) (MB.out.aside HP2.out (by omega) (Nat.le_refl _))
          rw [hz2] at hc3
          clear hz2
          go_wp2_with fail
          refine hc3.mono ?_
          rintro e3 w4 ⟨rfl, d3, p3, o3, S4⟩
          have HP3 := hidden p3
          have HO3 := hidden o3
          clear p3 o3 hc3
          go_wp2
          go_end0
          have hm := mergeEnd (a := a) (mid := mid) (b := b) (by omega) (by omega) (by rw [MD.out.1]; exact hb) MC.out HP2.out HO2.out HP3.out HO3.out
          exact ⟨rfl, d3, permIn_trans _ _ _ _ _ MD.out hm.1, hm.2, S4⟩
      · by_cases g2 : m < mid
        · have f1 : ¬ (s : Int) < (m : Int) := by omega
          have f3 : (a : Int) < (s : Int) := by omega
          have f4 : (s : Int) < (mid : Int) := by omega
          have f5 : ¬ (mid : Int) < (e : Int) := by omega
          have V : Via (rotIdx s m e) d d := rot_none d (by omega) x2 x3
          have hz1 : d.size = d.size := V.1
          obtain ⟨mA, mB, mC, mD⟩ := HC.out d V
          have MA := hidden mA
          have MB := hidden mB
          have MC := hidden mC
          have MD := hidden mD
          clear mA mB mC mD V
          have hc2 := IH.out a s mid d wr S1 (by omega) (by omega) (by omega) (by omega) (by omega) MA.out
          rw [hz1] at hc2
          clear hz1
          go_wp2_with fail
          refine hc2.mono ?_
          rintro e2 w3 ⟨rfl, d2, p2, o2, S3⟩
          have HP2 := hidden p2
          have HO2 := hidden o2
          have hz2 : d2.size = d.size := p2.1.trans MD.out.1
          clear p2 o2 hc2
          have HP3 : Hid (PermIn mid b d2 d2) := hidden (permIn_refl _ _ _)
          have HO3 : Hid (SortedIn T mid b d2) := hidden ((MB.out.aside HP2.out (by omega) (Nat.le_refl _)).leftNil (by omega))
          go_wp2
          go_end0
          have hm := mergeEnd (a := a) (mid := mid) (b := b) (by omega) (by omega) (by rw [MD.out.1]; exact hb) MC.out HP2.out HO2.out HP3.out HO3.out
          exact ⟨rfl, d2, permIn_trans _ _ _ _ _ MD.out hm.1, hm.2, S3⟩
        · have f1 : ¬ (s : Int) < (m : Int) := by omega
          have f3 : (a : Int) < (s : Int) := by omega
          have f4 : ¬ (s : Int) < (mid : Int) := by omega
          have f5 : ¬ (mid : Int) < (e : Int) := by omega
          have V : Via (rotIdx s m e) d d := rot_none d (by omega) x2 x3
          have hz1 : d.size = d.size := V.1
          obtain ⟨mA, mB, mC, mD⟩ := HC.out d V
          have MA := hidden mA
          have MB := hidden mB
          have MC := hidden mC
          have MD := hidden mD
          clear mA mB mC mD V
          have HP2 : Hid (PermIn a mid d d) := hidden (permIn_refl _ _ _)
          have HO2 : Hid (SortedIn T a mid d) := hidden (MA.out.rightNil (by omega))
          have hz2 : d.size = d.size := hz1
          have HP3 : Hid (PermIn mid b d d) := hidden (permIn_refl _ _ _)
          have HO3 : Hid (SortedIn T mid b d) := hidden ((MB.out.aside HP2.out (by omega) (Nat.le_refl _)).leftNil (by omega))
          go_wp2
          go_end0
          have hm := mergeEnd (a := a) (mid := mid) (b := b) (by omega) (by omega) (by rw [MD.out.1]; exact hb) MC.out HP2.out HO2.out HP3.out HO3.out
          exact ⟨rfl, d, permIn_trans _ _ _ _ _ MD.out hm.1, hm.2, S1⟩

end Go.Proofs.Ytfkhfkbkjiekkaa
