/-
  The pattern-defeating quicksort, items.
-/
import Derived.Test.YtfkhfkbkjiekkaaIns
import Derived.Test.YtfkhfkbkjiekkaaHeap
import Derived.Test.YtfkhfkbkjiekkaaRev
import Derived.Test.YtfkhfkbkjiekkaaBrk
import Derived.Test.YtfkhfkbkjiekkaaPivC
import Derived.Test.YtfkhfkbkjiekkaaPinsC
import Derived.Test.YtfkhfkbkjiekkaaPeqC
import Derived.Test.YtfkhfkbkjiekkaaPartC
import Derived.Test.YtfkhfkbkjiekkaaPdqPlain
import Derived.BigRegion
import Derived.Sort.WalkB2
import Derived.Sort.WalkB3
import Derived.Sort.WalkA6
import Derived.Sort.LotB
import Derived.Deep.CutRange
import Derived.Deep.CutBlock
namespace Go.Proofs.Ytfkhfkbkjiekkaa
open Go.RowKit Go.Sort

set_option maxHeartbeats 2000000 in
set_option maxRecDepth 1000000 in
theorem pdqsortC {rk : Array Int} [Inhabited (It rk)] (B blk off cap : Nat) (w0 : World) (R : ∀ W, w0.grownBy W (some blk) → Ranks W B rk) (hT : SWO (ltR rk)) : ∀ (N a b limit : Nat) (d : Array (It rk)) (w : World) (_ : SC (fun x : It rk => x.1.1) w0 blk off d w) (_ : b - a ≤ N) (_ : a ≤ b) (_ : b ≤ d.size) (_ : d.size < 65536) (_ : limit ≤ 65536) (_ : Sort.Below (ltR rk) a b d),
    Calls Try.prog 47 #[.slice (some ⟨blk, off, none⟩) d.size cap, .int .i64 a, .int .i64 b, .int .i64 limit, .func (.func 43) #[] #[.pointer (some ⟨B, 0, none⟩)]] w fun e w' => e = .returned (.tuple #[]) ∧ ∃ d' : Array (It rk), PermIn a b d d' ∧ SortedIn (ltR rk) a b d' ∧ SC (fun x : It rk => x.1.1) w0 blk off d' w' := by
  have mixed : Try.prog.follows .mixedOrders = true := by kernel_rfl
  intro N
  induction N with
  | zero =>
    intro a b limit d w S hN hab hb hsz hl hB
    have hba : b = a := by omega
    subst hba
    have hc := insertionSortC B blk off cap w0 R b b d w S (Nat.le_refl _) hb (by omega)
    have hp := insertionSort_holds hT d b b (Nat.le_refl _) hb
    generalize Sort.insertionSort (ltR rk) d b b = d2 at hc hp
    have HC := hidden hc
    have HP := hidden hp
    clear hc hp
    go_enter Try.func47, Try.ntmps47
    go_wp2
    go_loopg [1, 2] 0 (fun g1 v1 v2 wr => v1 = .int .i64 b ∧ v2 = .int .i64 b ∧ wr = w)
    case atStart => exact ⟨rfl, rfl, rfl⟩
    case round =>
      obtain ⟨rfl, rfl, rfl⟩ := hrel
      go_wp2_with fail
      refine HC.out.mono ?_
      rintro e w2 ⟨rfl, S2⟩
      go_wp2
      (try simp only [Exit.inBlock, Exit.then]); refine bodyPost_ret (results_none rfl _ _ _) rfl ?_
      exact ⟨rfl, d2, HP.out.1, HP.out.2, S2⟩
  | succ N ih =>
  intro a b limit d w S hN hab hb hsz hl hB
  have IH := hidden ih
  have HQ0 := hidden (PQ.start hab hB)
  clear ih hB
  go_enter Try.func47, Try.ntmps47
  go_wp2
  go_loopg [1, 2, 3, 10, 11] (b - a) (fun g1 va vb vl vwb vwp wr => ∃ (x y lim : Nat) (wb wp : Bool) (dk : Array (It rk)), va = .int .i64 x ∧ vb = .int .i64 y ∧ vl = .int .i64 lim ∧ vwb = .bool wb ∧ vwp = .bool wp ∧ y - x ≤ g1 ∧ a ≤ x ∧ x ≤ y ∧ y ≤ b ∧ lim ≤ 65536 ∧ SC (fun x : It rk => x.1.1) w0 blk off dk wr ∧ Hid (PQ (ltR rk) a b x y d dk))
  case atStart => exact ⟨a, b, limit, true, true, d, rfl, rfl, rfl, rfl, rfl, Nat.le_refl _, Nat.le_refl _, hab, Nat.le_refl _, hl, S, HQ0⟩
  case round =>
    clear S HQ0
    obtain ⟨x, y, lim, wb, wp, dk, rfl, rfl, rfl, rfl, rfl, hg1, hax, hxy, hyb, hlim, S1, HQ⟩ := hrel
    obtain ⟨L, hL1, hL2⟩ : ∃ L, x + L ≤ y ∧ y ≤ x + L := ⟨y - x, by omega, by omega⟩
    have zL : (y : Int) - (x : Int) = (L : Int) := by omega
    have HDS := hidden HQ.out.perm.1
    by_cases h12 : L ≤ 12
    · have h12z : (L : Int) ≤ 12 := by omega
      have hc := insertionSortC B blk off cap w0 R x y dk wr S1 hxy (by rw [HDS.out]; omega) (by rw [HDS.out]; omega)
      have hp := insertionSort_holds hT dk x y hxy (by rw [HDS.out]; omega)
      rw [HDS.out] at hc
      generalize Sort.insertionSort (ltR rk) dk x y = d2 at hc hp
      have HF := hidden (HQ.out.fin hb hp.1 hp.2)
      have HC := hidden hc
      clear hc hp S1
      go_wp2_with fail
      refine HC.out.mono ?_
      rintro e w2 ⟨rfl, S2⟩
      go_wp2
      (try simp only [Exit.inBlock, Exit.then]); refine bodyPost_ret (results_none rfl _ _ _) rfl ?_
      exact ⟨rfl, d2, HF.out.1, HF.out.2, S2⟩
    have h12z : ¬ (L : Int) ≤ 12 := by omega
    by_cases hlz : lim = 0
    · subst hlz
      have hc := heapSortC B blk off cap w0 R x y dk wr S1 hxy (by rw [HDS.out]; omega) (by rw [HDS.out]; omega)
      have hp := heapSort_holds hT dk x y hxy (by rw [HDS.out]; omega)
      rw [HDS.out] at hc
      generalize heapSort (ltR rk) dk x y = d2 at hc hp
      have HF := hidden (HQ.out.fin hb hp.1 hp.2)
      have HC := hidden hc
      clear hc hp S1
      go_wp2_with fail
      refine HC.out.mono ?_
      rintro e w2 ⟨rfl, S2⟩
      go_wp2
      (try simp only [Exit.inBlock, Exit.then]); refine bodyPost_ret (results_none rfl _ _ _) rfl ?_
      exact ⟨rfl, d2, HF.out.1, HF.out.2, S2⟩
    have hlb : ((lim : Int) == 0) = false := by rw [beq_eq_false_iff_ne]; omega
    have hlb2 : ¬ (lim : Int) = 0 := by omega
    go_upto_if 39 with fail
    go_cut [3] from 39 to 46 (fun v3 wc => ∃ (li : Nat) (dk : Array (It rk)), v3 = .int .i64 li ∧ li ≤ 65536 ∧ SC (fun x : It rk => x.1.1) w0 blk off dk wc ∧ Hid (PQ (ltR rk) a b x y d dk))
    case first =>
      cases wb with
      | true =>
        go_wp2
        go_meet
        case rel => exact ⟨lim, dk, rfl, hlim, S1, HQ⟩
      | false =>
        have hc := breakPatternsC B blk off cap w0 x y dk wr S1 hxy (by rw [HDS.out]; omega) (by rw [HDS.out]; omega)
        rw [HDS.out] at hc
        have HC := hidden hc
        clear hc S1
        go_wp2_with fail
        refine HC.out.mono ?_
        rintro e w2 ⟨rfl, d2, p2, S2⟩
        have HQ2 := hidden (HQ.out.step hb p2)
        clear p2 HC
        obtain ⟨lp, rfl⟩ : ∃ lp, lim = lp + 1 := ⟨lim - 1, by omega⟩
        go_wp2
        go_meet
        case rel => exact ⟨lp, d2, by go_num, by omega, S2, HQ2⟩
    case rest =>
    clear S1 HQ HDS hlim hlz hlb hlb2
    obtain ⟨li, dk, rfl, hlim, S1, HQ⟩ := hcut
    have HDS := hidden HQ.out.perm.1
    have hc := choosePivotC B blk off cap w0 R x y dk wc S1 (by omega) (by rw [HDS.out]; omega) (by rw [HDS.out]; omega)
    rw [HDS.out] at hc
    have HC := hidden hc
    clear hc S1
    go_wp2_with fail
    refine HC.out.mono ?_
    rintro e w2 ⟨p, hint, rfl, hp1, hp2, S2⟩
    clear HC
    go_upto_if 56 with fail
    go_cut [13, 14] from 56 to 67 (fun v13 v14 wc => ∃ (p : Nat) (hint : Int) (dk : Array (It rk)), v13 = .int .i64 p ∧ v14 = .int .i64 hint ∧ x ≤ p ∧ p < y ∧ SC (fun x : It rk => x.1.1) w0 blk off dk wc ∧ Hid (PQ (ltR rk) a b x y d dk))
    case first =>
      by_cases h2 : hint = 2
      · subst h2
        have hc := reverseRangeC B blk off cap w0 x y dk w2 S2 hxy (by rw [HDS.out]; omega) (by rw [HDS.out]; omega)
        rw [HDS.out] at hc
        have hp := reverseRange_holds dk x y hxy (by rw [HDS.out]; omega)
        generalize reverseRange dk x y = d3 at hc hp
        have HQ3 := hidden (HQ.out.step hb hp)
        have HC := hidden hc
        clear hc hp S2
        go_wp2_with fail
        refine HC.out.mono ?_
        rintro e w3 ⟨rfl, S3⟩
        clear HC
        obtain ⟨p', hq1, hq2⟩ : ∃ p', p' + p + 1 ≤ y + x ∧ y + x ≤ p' + p + 1 := ⟨y + x - p - 1, by omega, by omega⟩
        have zp : (y : Int) - 1 - ((p : Int) - (x : Int)) = (p' : Int) := by omega
        go_wp2
        go_meet
        case rel => exact ⟨p', 1, d3, rfl, rfl, by omega, by omega, S3, HQ3⟩
      · have h2b : (hint == 2) = false := by rw [beq_eq_false_iff_ne]; exact h2
        go_wp2
        go_meet
        case rel => exact ⟨p, hint, dk, rfl, rfl, hp1, hp2, S2, HQ⟩
    case rest =>
    clear S2 HQ HDS hp1 hp2
    obtain ⟨p, hint, dk, rfl, rfl, hp1, hp2, S2, HQ⟩ := hcut
    have HDS := hidden HQ.out.perm.1
    go_upto_region 15 with fail
    go_cut [75] from 68 to 74 (fun v75 wc2 => (∃ c : Bool, v75 = .bool c) ∧ wc2 = wc)
    case first =>
      cases wb with
      | false =>
        go_wp2
        go_meet
        case rel => exact ⟨⟨_, rfl⟩, rfl⟩
      | true =>
        cases wp with
        | false =>
          go_wp2
          go_meet
          case rel => exact ⟨⟨_, rfl⟩, rfl⟩
        | true =>
          go_wp2
          go_meet
          case rel => exact ⟨⟨_, rfl⟩, rfl⟩
    case rest =>
    obtain ⟨⟨c3, rfl⟩, rfl⟩ := hcut
    have BP := hidden (show x = 0 ∨ ∀ i, x ≤ i → i < y → (ltR rk) dk[i]! dk[x - 1]! = false from HQ.out.below)
    go_upto_if 75 with fail
    go_cut [] from 76 to 80 (fun wc => ∃ (dk : Array (It rk)), SC (fun x : It rk => x.1.1) w0 blk off dk wc ∧ Hid (PQ (ltR rk) a b x y d dk))
    case first =>
      cases c3 with
      | false =>
        go_wp2
        go_meet
        case rel => exact ⟨dk, S2, HQ⟩
      | true =>
        have hc := partialInsertionC B blk off cap w0 R x y dk _ S2 (by omega) (by rw [HDS.out]; omega) (by rw [HDS.out]; omega)
        rw [HDS.out] at hc
        have hp := partialInsertionSort_holds hT dk x y (by omega) (by rw [HDS.out]; omega) BP.out
        generalize partialInsertionSort (ltR rk) dk x y = r at hc hp
        obtain ⟨d3, f⟩ := r
        have HP := hidden hp
        have HC := hidden hc
        clear hc hp S2 BP
        go_wp2_with fail
        refine HC.out.mono ?_
        rintro e w3 ⟨rfl, S3⟩
        clear HC
        cases f with
        | true =>
          have HF := hidden (HQ.out.fin hb HP.out.1 (HP.out.2 rfl))
          go_wp2
          (try simp only [Exit.inBlock, Exit.then]); refine bodyPost_ret (results_none rfl _ _ _) rfl ?_
          exact ⟨rfl, d3, HF.out.1, HF.out.2, S3⟩
        | false =>
          have HQ3 := hidden (HQ.out.step hb HP.out.1)
          go_wp2
          go_meet
          case rel => exact ⟨d3, S3, HQ3⟩
    case rest =>
    clear S2 HQ HDS BP
    obtain ⟨dk, S2, HQ⟩ := hcut
    have HDS := hidden HQ.out.perm.1
    have BP := hidden (show x = 0 ∨ ∀ i, x ≤ i → i < y → (ltR rk) dk[i]! dk[x - 1]! = false from HQ.out.below)
    go_upto_region 17 with fail
    go_cut [97] from 81 to 96 (fun v97 wc => (∃ c : Bool, v97 = .bool c ∧ Hid (c = true → 0 < x ∧ (ltR rk) dk[x - 1]! dk[p]! = false)) ∧ SC (fun x : It rk => x.1.1) w0 blk off dk wc)
    case first =>
      by_cases hx0 : 0 < x
      · obtain ⟨xp, rfl⟩ : ∃ xp, x = xp + 1 := ⟨x - 1, by omega⟩
        have hxz : (0 : Int) < (xp : Int) + 1 := by omega
        have e1 : ((xp : Int)).toNat = xp := by omega
        have p1 : (0 : Int) ≤ (xp : Int) := by omega
        have b1 : (xp : Int) < (d.size : Int) := by omega
        have r1 : IntKind.i64.wrap ((xp : Int)) = (xp : Int) := by rw [IntKind.wrap_i64]; omega
        have e2 : ((p : Int)).toNat = p := by omega
        have p2 : (0 : Int) ≤ (p : Int) := by omega
        have b2 : (p : Int) < (d.size : Int) := by omega
        have r2 : IntKind.i64.wrap ((p : Int)) = (p : Int) := by rw [IntKind.wrap_i64]; omega
        have k1 : xp < dk.size := by rw [HDS.out]; omega
        have k2 : p < dk.size := by rw [HDS.out]; omega
        cases hlv : (ltR rk) dk[xp]! dk[p]! with
        | true =>
          have HL := hidden hlv
          obtain ⟨cx, cy, cv, l1, l2, l3, l4, hc, hvi, SG⟩ := S2.cmpAll R (xp) (p) (by assumption) (by assumption)
          have hv : cv < 0 := hvi.2 hlv
          have hdv : decide (cv < 0) = true := decide_eq_true hv
          clear hvi
          go_wp2_with fail
          go_quiet_grown (first | (go_at_call 43; refine Calls.grown_of (hc _ _)))
          have S3 := hidden (SG.out nq osq)
          clear l1 l2 l3 l4 hc SG
          generalize grow (wc.drewN nq) osq = w3 at S3 ⊢
          clear hlv
          go_wp2
          go_meet
          case rel => exact ⟨⟨_, rfl, hidden (fun e => by first | (cases e; done) | (simp at e))⟩, S3.out⟩
        | false =>
          have HL := hidden hlv
          obtain ⟨cx, cy, cv, l1, l2, l3, l4, hc, hvi, SG⟩ := S2.cmpAll R (xp) (p) (by assumption) (by assumption)
          have hv : ¬ cv < 0 := fun e => by rw [hvi.1 e] at hlv; cases hlv
          have hdv : decide (cv < 0) = false := decide_eq_false hv
          clear hvi
          go_wp2_with fail
          go_quiet_grown (first | (go_at_call 43; refine Calls.grown_of (hc _ _)))
          have S3 := hidden (SG.out nq osq)
          clear l1 l2 l3 l4 hc SG
          generalize grow (wc.drewN nq) osq = w3 at S3 ⊢
          clear hlv
          go_wp2
          go_meet
          case rel => exact ⟨⟨_, rfl, hidden (fun _ => ⟨by omega, by rw [Nat.add_sub_cancel]; exact HL.out⟩)⟩, S3.out⟩
      · have hx0' : x = 0 := by omega
        subst hx0'
        have S3 := hidden S2.drew
        clear S2
        go_wp2_with fail
        go_region
        generalize (World.drew _) = w3 at S3 ⊢
        go_wp2
        go_meet
        case rel => exact ⟨⟨_, rfl, hidden (fun e => by first | (cases e; done) | (simp at e))⟩, S3.out⟩
    case rest =>
    clear S2
    obtain ⟨⟨c4, rfl, HC4⟩, S2⟩ := hcut
    cases c4 with
    | true =>
      have hge := hidden (show ∀ i, x ≤ i → i < y → (ltR rk) dk[i]! dk[p]! = false from fun i h1 h2 => by
        have h3 := HC4.out rfl
        rcases BP.out with h0 | hB
        · omega
        · exact hT.ntrans _ _ _ (hB i h1 h2) h3.2)
      have hc := partitionEqualC B blk off cap w0 R hT x y p dk _ S2 hp1 hp2 (by rw [HDS.out]; omega) (by rw [HDS.out]; omega)
      rw [HDS.out] at hc
      have HC := hidden hc
      clear hc S2 HC4 BP
      go_wp2_with fail
      refine HC.out.mono ?_
      rintro e w3 ⟨m, d3, rfl, c3, S3⟩
      have HQ3 := hidden (HQ.out.eq hT hb hge.out c3)
      have hm1 := c3.am
      have hm2 := c3.mb
      clear c3 HC hge
      go_wp2
      go_roundg (y - m)
      case measure => omega
      case rel => exact ⟨m, y, li, wb, wp, d3, rfl, rfl, rfl, rfl, rfl, Nat.le_refl _, by omega, hm2, hyb, hlim, S3, HQ3⟩
    | false =>
      have hc := partitionC B blk off cap w0 R x y p dk _ S2 hp1 hp2 (by rw [HDS.out]; omega) (by rw [HDS.out]; omega)
      rw [HDS.out] at hc
      have HC := hidden hc
      clear hc S2 HC4 BP
      go_wp2_with fail
      refine HC.out.mono ?_
      rintro e w3 ⟨m, f, d3, rfl, c3, S3⟩
      have hm1 := c3.am
      have hm2 := c3.mb
      have HCUT := hidden c3
      have HD3 := hidden (c3.perm.1.trans HDS.out)
      have HBL := hidden (HQ.out.belowLeft hb c3)
      have HBR := hidden c3.belowRight
      obtain ⟨u, hu1, hu2⟩ : ∃ u, x + u ≤ m ∧ m ≤ x + u := ⟨m - x, by omega, by omega⟩
      have zu : (m : Int) - (x : Int) = (u : Int) := by omega
      obtain ⟨v, hv1, hv2⟩ : ∃ v, m + v ≤ y ∧ y ≤ m + v := ⟨y - m, by omega, by omega⟩
      have zv : (y : Int) - (m : Int) = (v : Int) := by omega
      clear c3 HC
      by_cases huv : u < v
      · have huvz : (u : Int) < (v : Int) := by omega
        have hc := IH.out x m li d3 w3 S3 (by omega) hm1 (by rw [HD3.out]; omega) (by rw [HD3.out]; omega) hlim HBL.out
        rw [HD3.out] at hc
        have HC := hidden hc
        clear hc S3
        go_wp2_with fail
        refine HC.out.mono ?_
        rintro e w4 ⟨rfl, d4, p4, o4, S4⟩
        have HQ4 := hidden (HQ.out.left hT hb HCUT.out p4 o4)
        clear p4 o4 HC
        go_wp2
        go_roundg (y - (m + 1))
        case measure => omega
        case rel => exact ⟨m + 1, y, li, _, f, d4, by go_num, rfl, rfl, rfl, rfl, Nat.le_refl _, by omega, by omega, hyb, hlim, S4, HQ4⟩
      · have huvz : ¬ (u : Int) < (v : Int) := by omega
        have hc := IH.out (m + 1) y li d3 w3 S3 (by omega) (by omega) (by rw [HD3.out]; omega) (by rw [HD3.out]; omega) hlim HBR.out
        rw [HD3.out, Int.natCast_add] at hc
        have HC := hidden hc
        clear hc S3
        go_wp2_with fail
        refine HC.out.mono ?_
        rintro e w4 ⟨rfl, d4, p4, o4, S4⟩
        have HQ4 := hidden (HQ.out.right hT hb HCUT.out p4 o4)
        clear p4 o4 HC
        go_wp2
        go_roundg (m - x)
        case measure => omega
        case rel => exact ⟨x, m, li, _, f, d4, rfl, rfl, rfl, rfl, rfl, Nat.le_refl _, hax, hm1, by omega, hlim, S4, HQ4⟩

end Go.Proofs.Ytfkhfkbkjiekkaa
