/-
  The partition, items.
-/
import Derived.Test.YtfkhfkbkjiekkaaKitO
import Derived.Test.YtfkhfkbkjiekkaaParts
import Derived.BigRegion
import Derived.Sort.WalkB2
import Derived.Sort.WalkB3
import Derived.Deep.CutRange
import Derived.Deep.CutBlock
namespace Go.Proofs.Ytfkhfkbkjiekkaa
open Go.RowKit Go.Sort

set_option maxHeartbeats 2000000 in
set_option maxRecDepth 1000000 in
theorem partitionC {rk : Array Int} [Inhabited (It rk)] (B blk off cap : Nat) (w0 : World) (R : ∀ W, w0.grownBy W (some blk) → Ranks W B rk) (a b pivot : Nat) (d : Array (It rk)) (w : World) (S : SC (fun x : It rk => x.1.1) w0 blk off d w) (hap : a ≤ pivot) (hpb : pivot < b) (hb : b ≤ d.size) (hsz : d.size < 1152921504606846976) :
    Calls Try.prog 59 #[.slice (some ⟨blk, off, none⟩) d.size cap, .int .i64 a, .int .i64 b, .int .i64 pivot, .func (.func 43) #[] #[.pointer (some ⟨B, 0, none⟩)]] w fun e w' => ∃ (m : Nat) (f : Bool) (d' : Array (It rk)), e = .returned (.tuple #[.int .i64 m, .bool f]) ∧ Cut (ltR rk) a b m d d' ∧ SC (fun x : It rk => x.1.1) w0 blk off d' w' := by
  have mixed : Try.prog.follows .mixedOrders = true := by kernel_rfl
  have H1 := hidden (PS.start (lt := (ltR rk)) hap hpb hb)
  have HD := hidden (size_swp d a pivot)
  have e1 : ((a : Int)).toNat = a := by omega
  have p1 : (0 : Int) ≤ (a : Int) := by omega
  have b1 : (a : Int) < (d.size : Int) := by omega
  have r1 : IntKind.i64.wrap ((a : Int)) = (a : Int) := by rw [IntKind.wrap_i64]; omega
  have e2 : ((pivot : Int)).toNat = pivot := by omega
  have p2 : (0 : Int) ≤ (pivot : Int) := by omega
  have b2 : (pivot : Int) < (d.size : Int) := by omega
  have r2 : IntKind.i64.wrap ((pivot : Int)) = (pivot : Int) := by rw [IntKind.wrap_i64]; omega
  have k1 : a < d.size := by omega
  have k2 : pivot < d.size := by omega
  go_enter Try.func59, Try.ntmps59
  go_wp2_with fail
  obtain ⟨sx, sy, u2, u3, u4, l1, l2, l3, l4, f1, f2, f3, f4, g2, g3, g4, S1⟩ := S.swapAll (a) (pivot) (by assumption) (by assumption)
  clear S
  go_wp2_with fail
  go_region
  clear l1 l2 l3 l4 f1 f2 f3 f4 g2 g3 g4
  generalize (World.drew _) = w1 at S1 ⊢
  have S1 := S1.out
  clear k1 k2
  obtain ⟨i0, j0, dk, hi1, hi2, hj1, hj2, H0, S0⟩ : ∃ (i j : Nat) (dk : Array (It rk)), i ≤ a + 1 ∧ a + 1 ≤ i ∧ j + 1 ≤ b ∧ b ≤ j + 1 ∧ Hid (PS (ltR rk) a b i j d dk) ∧ SC (fun x : It rk => x.1.1) w0 blk off dk w1 := ⟨a + 1, b - 1, swp d a pivot, Nat.le_refl _, Nat.le_refl _, by omega, by omega, H1, S1⟩
  have zi : (a : Int) + 1 = (i0 : Int) := by omega
  have zj : (b : Int) - 1 = (j0 : Int) := by omega
  clear H1 S1 HD
  go_wp2
  go_loopg [12] (j0 + 1 - i0) (fun g2 vi wr => ∃ x : Nat, vi = .int .i64 x ∧ i0 ≤ x ∧ j0 + 1 - x ≤ g2 ∧ SC (fun x : It rk => x.1.1) w0 blk off dk wr ∧ Hid (PS (ltR rk) a b x j0 d dk))
  case atStart => exact ⟨i0, by go_num, Nat.le_refl _, Nat.le_refl _, S0, H0⟩
  case round =>
    obtain ⟨x, rfl, hix, hg2, S2, H2⟩ := hrel
    clear S0 H0
    have x1 := H2.out.ai
    have x2 := H2.out.ij
    have x3 := H2.out.jb
    have HSZ := hidden H2.out.perm.1
    by_cases hle : x ≤ j0
    · have hlez : (x : Int) ≤ (j0 : Int) := by omega
      have hled : decide ((x : Int) ≤ (j0 : Int)) = true := decide_eq_true hlez
      have k1 : x < dk.size := by rw [HSZ.out]; omega
      have k2 : a < dk.size := by rw [HSZ.out]; omega
      have bx : (x : Int) < (d.size : Int) := by omega
      have ba : (a : Int) < (d.size : Int) := by omega
      cases hlv : (ltR rk) dk[x]! dk[a]! with
      | true =>
        have HL := hidden hlv
        obtain ⟨cx, cy, cv, l1, l2, l3, l4, hc, hvi, SG⟩ := S2.cmpAll R (x) (a) (by assumption) (by assumption)
        have hv : cv < 0 := hvi.2 hlv
        have hdv : decide (cv < 0) = true := decide_eq_true hv
        clear hvi
        go_wp2_with fail
        go_quiet_grown (first | (go_at_call 43; refine Calls.grown_of (hc _ _)))
        have S3 := hidden (SG.out nq osq)
        clear l1 l2 l3 l4 hc SG
        generalize grow (wr.drewN nq) osq = w3 at S3 ⊢
        clear hv hdv hlv
        go_wp2
        go_roundg (j0 + 1 - (x + 1))
        case measure => omega
        case rel => exact ⟨x + 1, by go_num, by omega, Nat.le_refl _, S3.out, hidden (H2.out.up hle HL.out)⟩
      | false =>
        have HL := hidden hlv
        obtain ⟨cx, cy, cv, l1, l2, l3, l4, hc, hvi, SG⟩ := S2.cmpAll R (x) (a) (by assumption) (by assumption)
        have hv : ¬ cv < 0 := fun e => by rw [hvi.1 e] at hlv; cases hlv
        have hdv : decide (cv < 0) = false := decide_eq_false hv
        clear hvi
        go_wp2_with fail
        go_quiet_grown (first | (go_at_call 43; refine Calls.grown_of (hc _ _)))
        have S3 := hidden (SG.out nq osq)
        clear l1 l2 l3 l4 hc SG
        generalize grow (wr.drewN nq) osq = w3 at S3 ⊢
        clear hv hdv hlv
        go_wp2
        go_loopg [13] (j0 + 1) (fun g3 vj wr => ∃ y : Nat, vj = .int .i64 y ∧ y ≤ j0 ∧ y + 1 ≤ g3 ∧ SC (fun x : It rk => x.1.1) w0 blk off dk wr ∧ Hid (PS (ltR rk) a b x y d dk))
        case atStart => exact ⟨j0, by go_num, Nat.le_refl _, Nat.le_refl _, S3.out, H2⟩
        case round =>
          obtain ⟨y, rfl, hyj, hg3, S4, H4⟩ := hrel
          clear S3 H2 x2 x3 k1 bx hlez hled
          have x2 := H4.out.ij
          have x3 := H4.out.jb
          by_cases hle2 : x ≤ y
          · obtain ⟨yp, rfl⟩ : ∃ yp, y = yp + 1 := ⟨y - 1, by omega⟩
            have hlez : (x : Int) ≤ (yp : Int) + 1 := by omega
            have hled : decide ((x : Int) ≤ (yp : Int) + 1) = true := decide_eq_true hlez
            have k1 : yp + 1 < dk.size := by rw [HSZ.out]; omega
            have bx : (yp : Int) + 1 < (d.size : Int) := by omega
            have ey : ((yp : Int) + 1).toNat = yp + 1 := by omega
            have py : (0 : Int) ≤ (yp : Int) + 1 := by omega
            cases hlv : (ltR rk) dk[yp + 1]! dk[a]! with
            | false =>
              have HL2 := hidden hlv
              obtain ⟨cx, cy, cv, l1, l2, l3, l4, hc, hvi, SG⟩ := S4.cmpAll R (yp + 1) (a) (by assumption) (by assumption)
              have hv : ¬ cv < 0 := fun e => by rw [hvi.1 e] at hlv; cases hlv
              have hdv : decide (cv < 0) = false := decide_eq_false hv
              clear hvi
              go_wp2_with fail
              go_quiet_grown (first | (go_at_call 43; refine Calls.grown_of (hc _ _)))
              have S5 := hidden (SG.out nq osq)
              clear l1 l2 l3 l4 hc SG
              generalize grow (wr.drewN nq) osq = w5 at S5 ⊢
              clear hv hdv hlv
              go_wp2
              go_roundg (yp + 1)
              case measure => omega
              case rel => exact ⟨yp, by go_num, by omega, Nat.le_refl _, S5.out, hidden (H4.out.down hle2 HL2.out)⟩
            | true =>
              have HL2 := hidden hlv
              have hne : x ≠ yp + 1 := fun e => by subst e; have h1 := HL.out; rw [hlv] at h1; cases h1
              obtain ⟨cx, cy, cv, l1, l2, l3, l4, hc, hvi, SG⟩ := S4.cmpAll R (yp + 1) (a) (by assumption) (by assumption)
              have hv : cv < 0 := hvi.2 hlv
              have hdv : decide (cv < 0) = true := decide_eq_true hv
              clear hvi
              go_wp2_with fail
              go_quiet_grown (first | (go_at_call 43; refine Calls.grown_of (hc _ _)))
              have S5 := hidden (SG.out nq osq)
              clear l1 l2 l3 l4 hc SG
              generalize grow (wr.drewN nq) osq = w5 at S5 ⊢
              clear hv hdv hlv hlez hled
              have hlt : x < yp + 1 := by omega
              have hltz : ¬ (yp : Int) + 1 < (x : Int) := by omega
              have k3 : x < dk.size := by rw [HSZ.out]; omega
              have bx2 : (x : Int) < (d.size : Int) := by omega
              have ex : ((x : Int)).toNat = x := by omega
              have H6 := hidden (H4.out.swap hb hlt HL.out HL2.out)
              have S6 := S5.out
              clear S5
              go_wp2_with fail
              obtain ⟨sx, sy, u2, u3, u4, l1, l2, l3, l4, f1, f2, f3, f4, g2, g3, g4, S9⟩ := S6.swapAll (x) (yp + 1) (by assumption) (by assumption)
              clear S6
              go_wp2_with fail
              go_region
              clear l1 l2 l3 l4 f1 f2 f3 f4 g2 g3 g4
              generalize (World.drew _) = w9 at S9 ⊢
              clear HL HL2 H4 HSZ
              go_wp2
              go_loopg [12, 13] b (fun g4 vi vj wr => ∃ (i j : Nat) (dl : Array (It rk)), vi = .int .i64 i ∧ vj = .int .i64 j ∧ j + 1 - i ≤ g4 ∧ SC (fun x : It rk => x.1.1) w0 blk off dl wr ∧ Hid (PS (ltR rk) a b i j d dl))
              case atStart => exact ⟨x + 1, yp, swp dk x (yp + 1), by go_num, by go_num, by omega, S9.out, H6⟩
              case round =>
                clear S9 H6 x1 x2 x3 hix hle hyj hle2 k1 k2 k3 bx ba ey py hne hlt hltz bx2 ex hg2 hg3
                obtain ⟨i, j, dl, rfl, rfl, hg4, S0, H0⟩ := hrel
                go_wp2_with fail
                go_loopg [12] (j + 1 - i) (fun g2 vi wr => ∃ x : Nat, vi = .int .i64 x ∧ i ≤ x ∧ j + 1 - x ≤ g2 ∧ SC (fun x : It rk => x.1.1) w0 blk off dl wr ∧ Hid (PS (ltR rk) a b x j d dl))
                case atStart => exact ⟨i, by go_num, Nat.le_refl _, Nat.le_refl _, S0, H0⟩
                case round =>
                  obtain ⟨x, rfl, hix, hg2, S2, H2⟩ := hrel
                  clear S0 H0
                  have x1 := H2.out.ai
                  have x2 := H2.out.ij
                  have x3 := H2.out.jb
                  have HSZ := hidden H2.out.perm.1
                  by_cases hle : x ≤ j
                  · have hlez : (x : Int) ≤ (j : Int) := by omega
                    have hled : decide ((x : Int) ≤ (j : Int)) = true := decide_eq_true hlez
                    have k1 : x < dl.size := by rw [HSZ.out]; omega
                    have k2 : a < dl.size := by rw [HSZ.out]; omega
                    have bx : (x : Int) < (d.size : Int) := by omega
                    have ba : (a : Int) < (d.size : Int) := by omega
                    cases hlv : (ltR rk) dl[x]! dl[a]! with
                    | true =>
                      have HL := hidden hlv
                      obtain ⟨cx, cy, cv, l1, l2, l3, l4, hc, hvi, SG⟩ := S2.cmpAll R (x) (a) (by assumption) (by assumption)
                      have hv : cv < 0 := hvi.2 hlv
                      have hdv : decide (cv < 0) = true := decide_eq_true hv
                      clear hvi
                      go_wp2_with fail
                      go_quiet_grown (first | (go_at_call 43; refine Calls.grown_of (hc _ _)))
                      have S3 := hidden (SG.out nq osq)
                      clear l1 l2 l3 l4 hc SG
                      generalize grow (wr.drewN nq) osq = w3 at S3 ⊢
                      clear hv hdv hlv
                      go_wp2
                      go_roundg (j + 1 - (x + 1))
                      case measure => omega
                      case rel => exact ⟨x + 1, by go_num, by omega, Nat.le_refl _, S3.out, hidden (H2.out.up hle HL.out)⟩
                    | false =>
                      have HL := hidden hlv
                      obtain ⟨cx, cy, cv, l1, l2, l3, l4, hc, hvi, SG⟩ := S2.cmpAll R (x) (a) (by assumption) (by assumption)
                      have hv : ¬ cv < 0 := fun e => by rw [hvi.1 e] at hlv; cases hlv
                      have hdv : decide (cv < 0) = false := decide_eq_false hv
                      clear hvi
                      go_wp2_with fail
                      go_quiet_grown (first | (go_at_call 43; refine Calls.grown_of (hc _ _)))
                      have S3 := hidden (SG.out nq osq)
                      clear l1 l2 l3 l4 hc SG
                      generalize grow (wr.drewN nq) osq = w3 at S3 ⊢
                      clear hv hdv hlv
                      go_wp2
                      go_loopg [13] (j + 1) (fun g3 vj wr => ∃ y : Nat, vj = .int .i64 y ∧ y ≤ j ∧ y + 1 ≤ g3 ∧ SC (fun x : It rk => x.1.1) w0 blk off dl wr ∧ Hid (PS (ltR rk) a b x y d dl))
                      case atStart => exact ⟨j, by go_num, Nat.le_refl _, Nat.le_refl _, S3.out, H2⟩
                      case round =>
                        obtain ⟨y, rfl, hyj, hg3, S4, H4⟩ := hrel
                        clear S3 H2 x2 x3 k1 bx hlez hled
                        have x2 := H4.out.ij
                        have x3 := H4.out.jb
                        by_cases hle2 : x ≤ y
                        · obtain ⟨yp, rfl⟩ : ∃ yp, y = yp + 1 := ⟨y - 1, by omega⟩
                          have hlez : (x : Int) ≤ (yp : Int) + 1 := by omega
                          have hled : decide ((x : Int) ≤ (yp : Int) + 1) = true := decide_eq_true hlez
                          have k1 : yp + 1 < dl.size := by rw [HSZ.out]; omega
                          have bx : (yp : Int) + 1 < (d.size : Int) := by omega
                          have ey : ((yp : Int) + 1).toNat = yp + 1 := by omega
                          have py : (0 : Int) ≤ (yp : Int) + 1 := by omega
                          cases hlv : (ltR rk) dl[yp + 1]! dl[a]! with
                          | false =>
                            have HL2 := hidden hlv
                            obtain ⟨cx, cy, cv, l1, l2, l3, l4, hc, hvi, SG⟩ := S4.cmpAll R (yp + 1) (a) (by assumption) (by assumption)
                            have hv : ¬ cv < 0 := fun e => by rw [hvi.1 e] at hlv; cases hlv
                            have hdv : decide (cv < 0) = false := decide_eq_false hv
                            clear hvi
                            go_wp2_with fail
                            go_quiet_grown (first | (go_at_call 43; refine Calls.grown_of (hc _ _)))
                            have S5 := hidden (SG.out nq osq)
                            clear l1 l2 l3 l4 hc SG
                            generalize grow (wr.drewN nq) osq = w5 at S5 ⊢
                            clear hv hdv hlv
                            go_wp2
                            go_roundg (yp + 1)
                            case measure => omega
                            case rel => exact ⟨yp, by go_num, by omega, Nat.le_refl _, S5.out, hidden (H4.out.down hle2 HL2.out)⟩
                          | true =>
                            have HL2 := hidden hlv
                            have hne : x ≠ yp + 1 := fun e => by subst e; have h1 := HL.out; rw [hlv] at h1; cases h1
                            obtain ⟨cx, cy, cv, l1, l2, l3, l4, hc, hvi, SG⟩ := S4.cmpAll R (yp + 1) (a) (by assumption) (by assumption)
                            have hv : cv < 0 := hvi.2 hlv
                            have hdv : decide (cv < 0) = true := decide_eq_true hv
                            clear hvi
                            go_wp2_with fail
                            go_quiet_grown (first | (go_at_call 43; refine Calls.grown_of (hc _ _)))
                            have S5 := hidden (SG.out nq osq)
                            clear l1 l2 l3 l4 hc SG
                            generalize grow (wr.drewN nq) osq = w5 at S5 ⊢
                            clear hv hdv hlv hlez hled
                            have hlt : x < yp + 1 := by omega
                            have hltz : ¬ (yp : Int) + 1 < (x : Int) := by omega
                            have k3 : x < dl.size := by rw [HSZ.out]; omega
                            have bx2 : (x : Int) < (d.size : Int) := by omega
                            have ex : ((x : Int)).toNat = x := by omega
                            have H6 := hidden (H4.out.swap hb hlt HL.out HL2.out)
                            have S6 := S5.out
                            clear S5
                            go_wp2_with fail
                            obtain ⟨sx, sy, u2, u3, u4, l1, l2, l3, l4, f1, f2, f3, f4, g2, g3, g4, S9⟩ := S6.swapAll (x) (yp + 1) (by assumption) (by assumption)
                            clear S6
                            go_wp2_with fail
                            go_region
                            clear l1 l2 l3 l4 f1 f2 f3 f4 g2 g3 g4
                            generalize (World.drew _) = w9 at S9 ⊢
                            go_wp2
                            go_roundg (yp + 1 - (x + 1))
                            case measure => omega
                            case rel => exact ⟨x + 1, yp, swp dl x (yp + 1), by go_num, by go_num, Nat.le_refl _, S9.out, H6⟩
                        · have hlez : ¬ (x : Int) ≤ (y : Int) := by omega
                          have hled : decide ((x : Int) ≤ (y : Int)) = false := decide_eq_false hlez
                          have S5 := hidden S4.drew
                          clear S4
                          go_wp2_with fail
                          go_region
                          generalize (World.drew _) = w5 at S5 ⊢
                          have hlt : y < x := by omega
                          have hltz : (y : Int) < (x : Int) := by omega
                          have S6 := S5.out
                          clear S5 hlez hled
                          go_wp2_with fail
                          have m1 := H4.out.ai
                          have ym : a ≤ y := by have := H4.out.ij; omega
                          have q1 : y < dl.size := by rw [HSZ.out]; omega
                          have q2 : a < dl.size := by rw [HSZ.out]; omega
                          have by1 : (y : Int) < (d.size : Int) := by omega
                          have ba1 : (a : Int) < (d.size : Int) := by omega
                          have ey1 : ((y : Int)).toNat = y := by omega
                          have ea1 : ((a : Int)).toNat = a := by omega
                          obtain ⟨sx, sy, u2, u3, u4, l1, l2, l3, l4, f1, f2, f3, f4, g2, g3, g4, S9⟩ := S6.swapAll (y) (a) (by assumption) (by assumption)
                          clear S6
                          go_wp2_with fail
                          go_region
                          clear l1 l2 l3 l4 f1 f2 f3 f4 g2 g3 g4
                          generalize (World.drew _) = w9 at S9 ⊢
                          go_wp2
                          go_ret2
                          exact ⟨y, false, swp dl y a, rfl, H4.out.done hb hlt, S9.out⟩
                  · have hlez : ¬ (x : Int) ≤ (j : Int) := by omega
                    have hled : decide ((x : Int) ≤ (j : Int)) = false := decide_eq_false hlez
                    have S3 := hidden S2.drew
                    clear S2
                    go_wp2_with fail
                    go_region
                    generalize (World.drew _) = w3 at S3 ⊢
                    go_wp2
                    go_loopg [13] 0 (fun g3 vj wr => vj = .int .i64 j ∧ SC (fun x : It rk => x.1.1) w0 blk off dl wr)
                    case atStart => exact ⟨by go_num, S3.out⟩
                    case round =>
                      obtain ⟨rfl, S4⟩ := hrel
                      clear S3
                      have S5 := hidden S4.drew
                      clear S4
                      go_wp2_with fail
                      go_region
                      generalize (World.drew _) = w5 at S5 ⊢
                      have hlt : j < x := by omega
                      have hltz : (j : Int) < (x : Int) := by omega
                      have S6 := S5.out
                      clear S5 hlez hled
                      go_wp2_with fail
                      have m1 := H2.out.ai
                      have ym : a ≤ j := by have := H2.out.ij; omega
                      have q1 : j < dl.size := by rw [HSZ.out]; omega
                      have q2 : a < dl.size := by rw [HSZ.out]; omega
                      have by1 : (j : Int) < (d.size : Int) := by omega
                      have ba1 : (a : Int) < (d.size : Int) := by omega
                      have ey1 : ((j : Int)).toNat = j := by omega
                      have ea1 : ((a : Int)).toNat = a := by omega
                      obtain ⟨sx, sy, u2, u3, u4, l1, l2, l3, l4, f1, f2, f3, f4, g2, g3, g4, S9⟩ := S6.swapAll (j) (a) (by assumption) (by assumption)
                      clear S6
                      go_wp2_with fail
                      go_region
                      clear l1 l2 l3 l4 f1 f2 f3 f4 g2 g3 g4
                      generalize (World.drew _) = w9 at S9 ⊢
                      go_wp2
                      go_ret2
                      exact ⟨j, false, swp dl j a, rfl, H2.out.done hb hlt, S9.out⟩
          · have hlez : ¬ (x : Int) ≤ (y : Int) := by omega
            have hled : decide ((x : Int) ≤ (y : Int)) = false := decide_eq_false hlez
            have S5 := hidden S4.drew
            clear S4
            go_wp2_with fail
            go_region
            generalize (World.drew _) = w5 at S5 ⊢
            have hlt : y < x := by omega
            have hltz : (y : Int) < (x : Int) := by omega
            have S6 := S5.out
            clear S5 hlez hled
            go_wp2_with fail
            have m1 := H4.out.ai
            have ym : a ≤ y := by have := H4.out.ij; omega
            have q1 : y < dk.size := by rw [HSZ.out]; omega
            have q2 : a < dk.size := by rw [HSZ.out]; omega
            have by1 : (y : Int) < (d.size : Int) := by omega
            have ba1 : (a : Int) < (d.size : Int) := by omega
            have ey1 : ((y : Int)).toNat = y := by omega
            have ea1 : ((a : Int)).toNat = a := by omega
            obtain ⟨sx, sy, u2, u3, u4, l1, l2, l3, l4, f1, f2, f3, f4, g2, g3, g4, S9⟩ := S6.swapAll (y) (a) (by assumption) (by assumption)
            clear S6
            go_wp2_with fail
            go_region
            clear l1 l2 l3 l4 f1 f2 f3 f4 g2 g3 g4
            generalize (World.drew _) = w9 at S9 ⊢
            go_wp2
            go_ret2
            exact ⟨y, true, swp dk y a, rfl, H4.out.done hb hlt, S9.out⟩
    · have hlez : ¬ (x : Int) ≤ (j0 : Int) := by omega
      have hled : decide ((x : Int) ≤ (j0 : Int)) = false := decide_eq_false hlez
      have S3 := hidden S2.drew
      clear S2
      go_wp2_with fail
      go_region
      generalize (World.drew _) = w3 at S3 ⊢
      go_wp2
      go_loopg [13] 0 (fun g3 vj wr => vj = .int .i64 j0 ∧ SC (fun x : It rk => x.1.1) w0 blk off dk wr)
      case atStart => exact ⟨by go_num, S3.out⟩
      case round =>
        obtain ⟨rfl, S4⟩ := hrel
        clear S3
        have S5 := hidden S4.drew
        clear S4
        go_wp2_with fail
        go_region
        generalize (World.drew _) = w5 at S5 ⊢
        have hlt : j0 < x := by omega
        have hltz : (j0 : Int) < (x : Int) := by omega
        have S6 := S5.out
        clear S5 hlez hled
        go_wp2_with fail
        have m1 := H2.out.ai
        have ym : a ≤ j0 := by have := H2.out.ij; omega
        have q1 : j0 < dk.size := by rw [HSZ.out]; omega
        have q2 : a < dk.size := by rw [HSZ.out]; omega
        have by1 : (j0 : Int) < (d.size : Int) := by omega
        have ba1 : (a : Int) < (d.size : Int) := by omega
        have ey1 : ((j0 : Int)).toNat = j0 := by omega
        have ea1 : ((a : Int)).toNat = a := by omega
        obtain ⟨sx, sy, u2, u3, u4, l1, l2, l3, l4, f1, f2, f3, f4, g2, g3, g4, S9⟩ := S6.swapAll (j0) (a) (by assumption) (by assumption)
        clear S6
        go_wp2_with fail
        go_region
        clear l1 l2 l3 l4 f1 f2 f3 f4 g2 g3 g4
        generalize (World.drew _) = w9 at S9 ⊢
        go_wp2
        go_ret2
        exact ⟨j0, true, swp dk j0 a, rfl, H2.out.done hb hlt, S9.out⟩

end Go.Proofs.Ytfkhfkbkjiekkaa
