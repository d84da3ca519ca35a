/-
  The breaking of patterns, in both families: a permutation.
-/
import Derived.Test.YtfkhfkbkjiekkaaKitO
import Derived.Test.YtfkhfkbkjiekkaaRand
import Derived.BigRegion
import Derived.Sort.WalkB2
import Derived.Sort.WalkB3
import Derived.Sort.WalkA6
import Derived.Deep.CutRange
import Derived.Deep.CutBlock
namespace Go.Proofs.Ytfkhfkbkjiekkaa
open Go.RowKit Go.Sort

theorem Rx.other {W : World} {c : Nat} (h : Rx W c) {k o : Nat} (v : Value) (hne : k ≠ c) : Rx (W.setCell ⟨k, o, none⟩ v) c := by
  obtain ⟨r, h1, h2, h3⟩ := h
  exact ⟨r, h1, by rw [World.cell?_setCell_other _ _ _ _ (fun e => hne (congrArg Addr.block e))]; exact h2, by rw [World.frozen?_setCell]; exact h3⟩
theorem Rx.drewn {W : World} {c : Nat} (h : Rx W c) : Rx W.drew c := by
  obtain ⟨r, h1, h2, h3⟩ := h
  exact ⟨r, h1, h2, h3⟩
theorem Rx.swapC {W : World} {c blk : Nat} (o1 o2 o3 o4 : Nat) (v1 v2 v3 v4 : Value) (h : Rx W c) (hne : blk ≠ c) :
    Hid (Rx (World.drew ((((W.setCell ⟨blk, o1, none⟩ v1).setCell ⟨blk, o2, none⟩ v2).setCell ⟨blk, o3, none⟩ v3).setCell ⟨blk, o4, none⟩ v4)) c) := hidden (((((h.other v1 hne).other v2 hne).other v3 hne).other v4 hne).drewn)
theorem Rx.swapO {W : World} {c blk : Nat} (o1 o2 : Nat) (v1 v2 : Value) (h : Rx W c) (hne : blk ≠ c) :
    Hid (Rx (World.drew ((W.setCell ⟨blk, o1, none⟩ v1).setCell ⟨blk, o2, none⟩ v2)) c) := hidden (((h.other v1 hne).other v2 hne).drewn)

set_option maxHeartbeats 2000000 in
set_option maxRecDepth 1000000 in
theorem breakPatternsC {rk : Array Int} [Inhabited (It rk)] (B blk off cap : Nat) (w0 : World) (a b : Nat) (d : Array (It rk)) (w : World) (S : SC (fun x : It rk => x.1.1) w0 blk off d w) (hab : a ≤ b) (hb : b ≤ d.size) (hsz : d.size < 65536) :
    Calls Try.prog 54 #[.slice (some ⟨blk, off, none⟩) d.size cap, .int .i64 a, .int .i64 b, .func (.func 43) #[] #[.pointer (some ⟨B, 0, none⟩)]] w fun e w' => e = .returned (.tuple #[]) ∧ ∃ d' : Array (It rk), PermIn a b d d' ∧ SC (fun x : It rk => x.1.1) w0 blk off d' w' := by
  obtain ⟨l, hl1, hl2⟩ : ∃ l, a + l ≤ b ∧ b ≤ a + l := ⟨b - a, by omega, by omega⟩
  have zl : (b : Int) - (a : Int) = (l : Int) := by omega
  by_cases h8 : 8 ≤ l
  · have h8z : (8 : Int) ≤ (l : Int) := by omega
    obtain ⟨q, hq1, hq2⟩ : ∃ q, 4 * q ≤ l ∧ l < 4 * q + 4 := ⟨l / 4, by omega, by omega⟩
    have zq : (l : Int) / 4 = (q : Int) := by omega
    obtain ⟨s, hs1, hs2⟩ : ∃ s, s + 1 ≤ a + q * 2 ∧ a + q * 2 ≤ s + 1 := ⟨a + q * 2 - 1, by omega, by omega⟩
    have zs : (a : Int) + (q : Int) * 2 - 1 = (s : Int) := by omega
    have hc0 : w0.heap.size ≤ w.heap.size := S.gb.size
    have HS1 := hidden (S.alloc (.cells #[.int .u64 l] 72))
    have HR1 : Hid (Rx (w.alloc (.cells #[.int .u64 l] 72)) w.heap.size) := hidden ⟨l, by omega, by simp, by simp⟩
    have HN := hidden (fun W => nextPower_any l W (by omega))
    clear S
    go_enter Try.func54, Try.ntmps54
    go_wp2_with fail
    refine (HN.out _).mono ?_
    rintro e w1 ⟨m, rfl, hm1, hm2, hm3, rfl⟩
    have hm4 := hm2 (by omega)
    clear HN hm2
    go_wp2
    go_loopg [11, 12] 4 (fun g1 v11 v12 wr => ∃ (t : Nat) (dk : Array (It rk)), v11 = .int .i64 ((s : Int) + (t : Int)) ∧ t ≤ 3 ∧ 3 - t ≤ g1 ∧ SC (fun x : It rk => x.1.1) w0 blk off dk wr ∧ Hid (PermIn a b d dk) ∧ Hid (Rx wr w.heap.size))
    case atStart => exact ⟨0, d, by simp, by omega, by omega, HS1.out, hidden (permIn_refl _ _ _), HR1⟩
    case round =>
      clear HS1 HR1 h8z zl
      obtain ⟨t, dk, rfl, ht, hg1, S1, HP, HR⟩ := hrel
      have HDS := hidden HP.out.1
      by_cases hlt : t < 3
      · have hltz : (s : Int) + (t : Int) ≤ (a : Int) + (q : Int) * 2 + 1 := by omega
        have ebig := hidden (show ∀ w' r, r < 18446744073709551616 → Only w.heap.size wr w' → Hid (SC (fun x : It rk => x.1.1) w0 blk off dk w') from fun w' r hr ho => hidden (ho (fun W => SC (fun x : It rk => x.1.1) w0 blk off dk W) S1 (fun W h => h.drew) (fun W v h => h.setNew _ _ _ hc0)))
        go_wp2_with fail
        refine (next_any w.heap.size wr HR.out).mono ?_
        rintro e w2 ⟨r, rfl, hr, R2, O2⟩
        have S2 := ebig.out w2 r hr O2
        have HR2 := hidden R2
        obtain ⟨o, ho1, ho2⟩ : ∃ o : Nat, o ≤ m - 1 ∧ bits .and .u64 (r : Int) ((m : Int) - 1) = (o : Int) := ⟨r &&& (m - 1), Nat.and_le_right, by
          have h := u64_and_nat r (m - 1) hr (by omega)
          rw [show ((m - 1 : Nat) : Int) = (m : Int) - 1 by omega] at h
          exact h⟩
        clear ebig R2 O2 HR S1 hr
        by_cases hol : l ≤ o
        · have holz : (l : Int) ≤ (o : Int) := by omega
          obtain ⟨x, hx1, hx2⟩ : ∃ x, x + l ≤ o ∧ o ≤ x + l := ⟨o - l, by omega, by omega⟩
          have zx : (o : Int) - (l : Int) = (x : Int) := by omega
          have e1 : ((s : Int) + (t : Int)).toNat = s + t := by omega
          have p1 : (0 : Int) ≤ (s : Int) + (t : Int) := by omega
          have b1 : (s : Int) + (t : Int) < (d.size : Int) := by omega
          have r1 : IntKind.i64.wrap ((s : Int) + (t : Int)) = (s : Int) + (t : Int) := by rw [IntKind.wrap_i64]; omega
          have e2 : ((a : Int) + (x : Int)).toNat = a + x := by omega
          have p2 : (0 : Int) ≤ (a : Int) + (x : Int) := by omega
          have b2 : (a : Int) + (x : Int) < (d.size : Int) := by omega
          have r2 : IntKind.i64.wrap ((a : Int) + (x : Int)) = (a : Int) + (x : Int) := by rw [IntKind.wrap_i64]; omega
          have k1 : s + t < dk.size := by rw [HDS.out]; omega
          have k2 : a + x < dk.size := by rw [HDS.out]; omega
          have HP3 := hidden (permIn_trans _ _ _ _ _ HP.out (swp_permIn dk a b (s + t) (a + x) (by omega) (by omega) (by omega) (by omega) (by rw [HDS.out]; exact hb)))
          go_wp2_with fail
          have hne : blk ≠ w.heap.size := by have := S2.out.lt; omega
          obtain ⟨sx, sy, u2, u3, u4, l1, l2, l3, l4, f1, f2, f3, f4, g2, g3, g4, S4⟩ := S2.out.swapAll (s + t) (a + x) (by assumption) (by assumption)
          go_wp2_with fail
          go_region
          clear l1 l2 l3 l4 f1 f2 f3 f4 g2 g3 g4
          have HR4 := Rx.swapC (blk := blk) (off + (s + t) * 2) (off + (s + t) * 2 + 1) (off + (a + x) * 2) (off + (a + x) * 2 + 1) (.int .i64 sy.1) (.int .i64 sy.2) (.int .i64 sx.1) (.int .i64 sx.2) HR2.out hne
          generalize (World.drew _) = w4 at S4 HR4 ⊢
          go_wp2
          go_roundg (3 - (t + 1))
          case measure => omega
          case rel => exact ⟨t + 1, swp dk (s + t) (a + x), by go_num, by omega, Nat.le_refl _, S4.out, HP3, HR4⟩
        · have holz : ¬ (l : Int) ≤ (o : Int) := by omega
          obtain ⟨x, hx1, hx2⟩ : ∃ x, x ≤ o ∧ o ≤ x := ⟨o, by omega, by omega⟩
          have zx : (o : Int) = (x : Int) := by omega
          rw [zx] at ho2
          have e1 : ((s : Int) + (t : Int)).toNat = s + t := by omega
          have p1 : (0 : Int) ≤ (s : Int) + (t : Int) := by omega
          have b1 : (s : Int) + (t : Int) < (d.size : Int) := by omega
          have r1 : IntKind.i64.wrap ((s : Int) + (t : Int)) = (s : Int) + (t : Int) := by rw [IntKind.wrap_i64]; omega
          have e2 : ((a : Int) + (x : Int)).toNat = a + x := by omega
          have p2 : (0 : Int) ≤ (a : Int) + (x : Int) := by omega
          have b2 : (a : Int) + (x : Int) < (d.size : Int) := by omega
          have r2 : IntKind.i64.wrap ((a : Int) + (x : Int)) = (a : Int) + (x : Int) := by rw [IntKind.wrap_i64]; omega
          have k1 : s + t < dk.size := by rw [HDS.out]; omega
          have k2 : a + x < dk.size := by rw [HDS.out]; omega
          have HP3 := hidden (permIn_trans _ _ _ _ _ HP.out (swp_permIn dk a b (s + t) (a + x) (by omega) (by omega) (by omega) (by omega) (by rw [HDS.out]; exact hb)))
          go_wp2_with fail
          have hne : blk ≠ w.heap.size := by have := S2.out.lt; omega
          obtain ⟨sx, sy, u2, u3, u4, l1, l2, l3, l4, f1, f2, f3, f4, g2, g3, g4, S4⟩ := S2.out.swapAll (s + t) (a + x) (by assumption) (by assumption)
          go_wp2_with fail
          go_region
          clear l1 l2 l3 l4 f1 f2 f3 f4 g2 g3 g4
          have HR4 := Rx.swapC (blk := blk) (off + (s + t) * 2) (off + (s + t) * 2 + 1) (off + (a + x) * 2) (off + (a + x) * 2 + 1) (.int .i64 sy.1) (.int .i64 sy.2) (.int .i64 sx.1) (.int .i64 sx.2) HR2.out hne
          generalize (World.drew _) = w4 at S4 HR4 ⊢
          go_wp2
          go_roundg (3 - (t + 1))
          case measure => omega
          case rel => exact ⟨t + 1, swp dk (s + t) (a + x), by go_num, by omega, Nat.le_refl _, S4.out, HP3, HR4⟩
      · have hltz : ¬ (s : Int) + (t : Int) ≤ (a : Int) + (q : Int) * 2 + 1 := by omega
        go_wp2
        go_end0
        exact ⟨rfl, dk, HP.out, S1⟩
  · have h8z : ¬ (8 : Int) ≤ (l : Int) := by omega
    go_enter Try.func54, Try.ntmps54
    go_wp2
    go_end0
    exact ⟨rfl, d, permIn_refl _ _ _, S⟩

set_option maxHeartbeats 2000000 in
set_option maxRecDepth 1000000 in
theorem breakPatternsO (blk off cap : Nat) (w0 : World) (a b : Nat) (d : Array (Int)) (w : World) (S : SO w0 blk off d w) (hab : a ≤ b) (hb : b ≤ d.size) (hsz : d.size < 65536) :
    Calls Try.prog 64 #[.slice (some ⟨blk, off, none⟩) d.size cap, .int .i64 a, .int .i64 b] w fun e w' => e = .returned (.tuple #[]) ∧ ∃ d' : Array (Int), PermIn a b d d' ∧ SO w0 blk off d' w' := by
  obtain ⟨l, hl1, hl2⟩ : ∃ l, a + l ≤ b ∧ b ≤ a + l := ⟨b - a, by omega, by omega⟩
  have zl : (b : Int) - (a : Int) = (l : Int) := by omega
  by_cases h8 : 8 ≤ l
  · have h8z : (8 : Int) ≤ (l : Int) := by omega
    obtain ⟨q, hq1, hq2⟩ : ∃ q, 4 * q ≤ l ∧ l < 4 * q + 4 := ⟨l / 4, by omega, by omega⟩
    have zq : (l : Int) / 4 = (q : Int) := by omega
    obtain ⟨s, hs1, hs2⟩ : ∃ s, s + 1 ≤ a + q * 2 ∧ a + q * 2 ≤ s + 1 := ⟨a + q * 2 - 1, by omega, by omega⟩
    have zs : (a : Int) + (q : Int) * 2 - 1 = (s : Int) := by omega
    have hc0 : w0.heap.size ≤ w.heap.size := S.gb.size
    have HS1 := hidden (S.alloc (.cells #[.int .u64 l] 72))
    have HR1 : Hid (Rx (w.alloc (.cells #[.int .u64 l] 72)) w.heap.size) := hidden ⟨l, by omega, by simp, by simp⟩
    have HN := hidden (fun W => nextPower_any l W (by omega))
    clear S
    go_enter Try.func64, Try.ntmps64
    go_wp2_with fail
    refine (HN.out _).mono ?_
    rintro e w1 ⟨m, rfl, hm1, hm2, hm3, rfl⟩
    have hm4 := hm2 (by omega)
    clear HN hm2
    go_wp2
    go_loopg [9, 10] 4 (fun g1 v11 v12 wr => ∃ (t : Nat) (dk : Array (Int)), v11 = .int .i64 ((s : Int) + (t : Int)) ∧ t ≤ 3 ∧ 3 - t ≤ g1 ∧ SO w0 blk off dk wr ∧ Hid (PermIn a b d dk) ∧ Hid (Rx wr w.heap.size))
    case atStart => exact ⟨0, d, by simp, by omega, by omega, HS1.out, hidden (permIn_refl _ _ _), HR1⟩
    case round =>
      clear HS1 HR1 h8z zl
      obtain ⟨t, dk, rfl, ht, hg1, S1, HP, HR⟩ := hrel
      have HDS := hidden HP.out.1
      by_cases hlt : t < 3
      · have hltz : (s : Int) + (t : Int) ≤ (a : Int) + (q : Int) * 2 + 1 := by omega
        have ebig := hidden (show ∀ w' r, r < 18446744073709551616 → Only w.heap.size wr w' → Hid (SO w0 blk off dk w') from fun w' r hr ho => hidden (ho (fun W => SO w0 blk off dk W) S1 (fun W h => h.drew) (fun W v h => h.setNew _ _ _ hc0)))
        go_wp2_with fail
        refine (next_any w.heap.size wr HR.out).mono ?_
        rintro e w2 ⟨r, rfl, hr, R2, O2⟩
        have S2 := ebig.out w2 r hr O2
        have HR2 := hidden R2
        obtain ⟨o, ho1, ho2⟩ : ∃ o : Nat, o ≤ m - 1 ∧ bits .and .u64 (r : Int) ((m : Int) - 1) = (o : Int) := ⟨r &&& (m - 1), Nat.and_le_right, by
          have h := u64_and_nat r (m - 1) hr (by omega)
          rw [show ((m - 1 : Nat) : Int) = (m : Int) - 1 by omega] at h
          exact h⟩
        clear ebig R2 O2 HR S1 hr
        by_cases hol : l ≤ o
        · have holz : (l : Int) ≤ (o : Int) := by omega
          obtain ⟨x, hx1, hx2⟩ : ∃ x, x + l ≤ o ∧ o ≤ x + l := ⟨o - l, by omega, by omega⟩
          have zx : (o : Int) - (l : Int) = (x : Int) := by omega
          have e1 : ((s : Int) + (t : Int)).toNat = s + t := by omega
          have p1 : (0 : Int) ≤ (s : Int) + (t : Int) := by omega
          have b1 : (s : Int) + (t : Int) < (d.size : Int) := by omega
          have r1 : IntKind.i64.wrap ((s : Int) + (t : Int)) = (s : Int) + (t : Int) := by rw [IntKind.wrap_i64]; omega
          have e2 : ((a : Int) + (x : Int)).toNat = a + x := by omega
          have p2 : (0 : Int) ≤ (a : Int) + (x : Int) := by omega
          have b2 : (a : Int) + (x : Int) < (d.size : Int) := by omega
          have r2 : IntKind.i64.wrap ((a : Int) + (x : Int)) = (a : Int) + (x : Int) := by rw [IntKind.wrap_i64]; omega
          have k1 : s + t < dk.size := by rw [HDS.out]; omega
          have k2 : a + x < dk.size := by rw [HDS.out]; omega
          have HP3 := hidden (permIn_trans _ _ _ _ _ HP.out (swp_permIn dk a b (s + t) (a + x) (by omega) (by omega) (by omega) (by omega) (by rw [HDS.out]; exact hb)))
          go_wp2_with fail
          have hne : blk ≠ w.heap.size := by have := S2.out.lt; omega
          obtain ⟨sx, sy, u2, l1, l2, f1, f2, g2, S4⟩ := S2.out.swapAll (s + t) (a + x) (by assumption) (by assumption)
          go_wp2_with fail
          go_region
          clear l1 l2 f1 f2 g2
          have HR4 := Rx.swapO (blk := blk) (off + (s + t)) (off + (a + x)) (.int .i64 sy) (.int .i64 sx) HR2.out hne
          generalize (World.drew _) = w4 at S4 HR4 ⊢
          go_wp2
          go_roundg (3 - (t + 1))
          case measure => omega
          case rel => exact ⟨t + 1, swp dk (s + t) (a + x), by go_num, by omega, Nat.le_refl _, S4.out, HP3, HR4⟩
        · have holz : ¬ (l : Int) ≤ (o : Int) := by omega
          obtain ⟨x, hx1, hx2⟩ : ∃ x, x ≤ o ∧ o ≤ x := ⟨o, by omega, by omega⟩
          have zx : (o : Int) = (x : Int) := by omega
          rw [zx] at ho2
          have e1 : ((s : Int) + (t : Int)).toNat = s + t := by omega
          have p1 : (0 : Int) ≤ (s : Int) + (t : Int) := by omega
          have b1 : (s : Int) + (t : Int) < (d.size : Int) := by omega
          have r1 : IntKind.i64.wrap ((s : Int) + (t : Int)) = (s : Int) + (t : Int) := by rw [IntKind.wrap_i64]; omega
          have e2 : ((a : Int) + (x : Int)).toNat = a + x := by omega
          have p2 : (0 : Int) ≤ (a : Int) + (x : Int) := by omega
          have b2 : (a : Int) + (x : Int) < (d.size : Int) := by omega
          have r2 : IntKind.i64.wrap ((a : Int) + (x : Int)) = (a : Int) + (x : Int) := by rw [IntKind.wrap_i64]; omega
          have k1 : s + t < dk.size := by rw [HDS.out]; omega
          have k2 : a + x < dk.size := by rw [HDS.out]; omega
          have HP3 := hidden (permIn_trans _ _ _ _ _ HP.out (swp_permIn dk a b (s + t) (a + x) (by omega) (by omega) (by omega) (by omega) (by rw [HDS.out]; exact hb)))
          go_wp2_with fail
          have hne : blk ≠ w.heap.size := by have := S2.out.lt; omega
          obtain ⟨sx, sy, u2, l1, l2, f1, f2, g2, S4⟩ := S2.out.swapAll (s + t) (a + x) (by assumption) (by assumption)
          go_wp2_with fail
          go_region
          clear l1 l2 f1 f2 g2
          have HR4 := Rx.swapO (blk := blk) (off + (s + t)) (off + (a + x)) (.int .i64 sy) (.int .i64 sx) HR2.out hne
          generalize (World.drew _) = w4 at S4 HR4 ⊢
          go_wp2
          go_roundg (3 - (t + 1))
          case measure => omega
          case rel => exact ⟨t + 1, swp dk (s + t) (a + x), by go_num, by omega, Nat.le_refl _, S4.out, HP3, HR4⟩
      · have hltz : ¬ (s : Int) + (t : Int) ≤ (a : Int) + (q : Int) * 2 + 1 := by omega
        go_wp2
        go_end0
        exact ⟨rfl, dk, HP.out, S1⟩
  · have h8z : ¬ (8 : Int) ≤ (l : Int) := by omega
    go_enter Try.func64, Try.ntmps64
    go_wp2
    go_end0
    exact ⟨rfl, d, permIn_refl _ _ _, S⟩

end Go.Proofs.Ytfkhfkbkjiekkaa
