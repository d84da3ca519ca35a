/-
  The stable sort.
-/
import Derived.Test.YtfkhfkbkjiekkaaSym
import Derived.Test.YtfkhfkbkjiekkaaIns
import Derived.Test.YtfkhfkbkjiekkaaBlocks
import Derived.BigRegion
import Derived.Deep.CutRange
import Derived.Deep.CutBlock
namespace Go.Proofs.Ytfkhfkbkjiekkaa
open Go.RowKit Go.Sort

set_option maxHeartbeats 2000000 in
set_option maxRecDepth 1000000 in
theorem stableC {rk : Array Int} [Inhabited (It rk)] (B blk off cap : Nat) (w0 : World) (R : ∀ W, w0.grownBy W (some blk) → Ranks W B rk) (T : It rk → It rk → Bool) (hT : SWO T) (d : Array (It rk)) (w : World) (S : SC (fun x : It rk => x.1.1) w0 blk off d w) (hsz : d.size < 1152921504606846976) (hA : ∀ i j, i < j → j < d.size → ltR rk d[j]! d[i]! = T d[j]! d[i]!) :
    Calls Try.prog 46 #[.slice (some ⟨blk, off, none⟩) d.size cap, .int .i64 d.size, .func (.func 43) #[] #[.pointer (some ⟨B, 0, none⟩)]] w fun e w' => e = .returned (.tuple #[]) ∧ ∃ d' : Array (It rk), PermIn 0 d.size d d' ∧ SortedIn T 0 d.size d' ∧ SC (fun x : It rk => x.1.1) w0 blk off d' w' := by
  have HA := hidden (Pre1.start (lt := ltR rk) (T := T) d.size d hA)
  clear hA
  go_enter Try.func46, Try.ntmps46
  go_wp2
  go_loopg [7, 8] d.size (fun g1 va vb wr => ∃ (a b t : Nat) (dk : Array (It rk)), va = .int .i64 a ∧ vb = .int .i64 b ∧ a ≤ d.size ∧ b ≤ a + 20 ∧ a + 20 ≤ b ∧ d.size - a ≤ g1 ∧ SC (fun x : It rk => x.1.1) w0 blk off dk wr ∧ Hid (a = 20 * t) ∧ Hid (Pre1 (ltR rk) T d.size a d dk))
  case atStart => exact ⟨0, 20, 0, d, by go_num, by go_num, Nat.zero_le _, by omega, by omega, by omega, S, hidden rfl, HA⟩
  case round =>
    obtain ⟨a, b, t, dk, rfl, rfl, had, hb1, hb2, hg1, S1, HT, HP⟩ := hrel
    clear S HA
    have hs := HP.out.perm.1
    by_cases hlt : b ≤ d.size
    · have hltz : (b : Int) ≤ (d.size : Int) := by omega
      have hc := insertionSortC B blk off cap w0 R a b dk wr S1 (by omega) (by omega) (by omega)
      rw [hs] at hc
      clear hs S1
      go_wp2_with fail
      refine hc.mono ?_
      rintro e w2 ⟨rfl, S2⟩
      clear hc
      go_wp2
      go_roundg (d.size - b)
      case measure => omega
      case rel => exact ⟨b, b + 20, t + 1, _, rfl, by go_num, hlt, by omega, by omega, Nat.le_refl _, S2, hidden (by have := HT.out; omega), hidden (HP.out.step hT (Nat.le_refl _) t HT.out (by omega) hlt (Or.inl (by omega)))⟩
    · have hltz : ¬ (b : Int) ≤ (d.size : Int) := by omega
      have hc := insertionSortC B blk off cap w0 R a d.size dk wr S1 had (by omega) (by omega)
      rw [hs] at hc
      have HP2 := hidden ((HP.out.step hT (Nat.le_refl _) t HT.out had (Nat.le_refl _) (Or.inr ⟨rfl, by omega⟩)).done rfl)
      clear hs S1 HP HT
      go_wp2_with fail
      refine hc.mono ?_
      rintro e w2 ⟨rfl, S2⟩
      clear hc
      generalize Sort.insertionSort (ltR rk) dk a d.size = d2 at S2 HP2
      clear hltz hlt hb1 hb2 had hg1
      go_wp2
      go_loopg [6, 7, 8, 9] d.size (fun g2 v6 v7 v8 v9 wr => ∃ (bs : Nat) (dk : Array (It rk)), v6 = .int .i64 bs ∧ 20 ≤ bs ∧ bs ≤ 2 * d.size + 20 ∧ d.size - bs ≤ g2 ∧ SC (fun x : It rk => x.1.1) w0 blk off dk wr ∧ Hid (Grp (ltR rk) T bs d.size d dk))
      case atStart => exact ⟨20, d2, by go_num, by omega, by omega, by omega, S2, HP2⟩
      case round =>
        obtain ⟨bs, dk, rfl, hbs1, hbs2, hg2, S3, HG⟩ := hrel
        clear S2 HP2
        by_cases hlt : bs < d.size
        · have hltz : (bs : Int) < (d.size : Int) := by omega
          go_wp2
          go_loopg [7, 8] d.size (fun g3 va vb wr => ∃ (a b t : Nat) (dk : Array (It rk)), va = .int .i64 a ∧ vb = .int .i64 b ∧ a ≤ d.size ∧ b ≤ a + 2 * bs ∧ a + 2 * bs ≤ b ∧ d.size - a ≤ g3 ∧ SC (fun x : It rk => x.1.1) w0 blk off dk wr ∧ Hid (a = 2 * t * bs) ∧ Hid (Pre2 (ltR rk) T bs d.size t d dk))
          case atStart => exact ⟨0, 2 * bs, 0, dk, by go_num, by go_num, Nat.zero_le _, by omega, by omega, by omega, S3, hidden (by simp), hidden HG.out.start⟩
          case round =>
            obtain ⟨a, b, t, dk, rfl, rfl, had, hb1, hb2, hg3, S4, HT, HP⟩ := hrel
            clear S3 HG
            have hs := HP.out.perm.1
            by_cases hle : b ≤ d.size
            · have hlez : (b : Int) ≤ (d.size : Int) := by omega
              have hc := symMergeC B blk off cap w0 R T hT (b - a) a (a + bs) b dk wr S4 (Nat.le_refl _) (by omega) (by omega) (by omega) (by omega) (HP.out.half (by omega) HT.out (by omega) hle hb1)
              rw [hs, Int.natCast_add] at hc
              clear hs S4
              go_wp2_with fail
              refine hc.mono ?_
              rintro e w2 ⟨rfl, d3, p3, o3, S5⟩
              have HP3 := hidden (HP.out.step (by omega) (Nat.le_refl _) HT.out hle (Or.inl (by omega)) p3 o3 (by omega))
              clear hc p3 o3
              go_wp2
              go_roundg (d.size - b)
              case measure => omega
              case rel => exact ⟨b, b + 2 * bs, t + 1, d3, rfl, by go_num, hle, by omega, by omega, Nat.le_refl _, S5, hidden (by have := HT.out; rw [Nat.mul_add, Nat.add_mul, ← this]; omega), HP3⟩
            · have hlez : ¬ (b : Int) ≤ (d.size : Int) := by omega
              by_cases hm : a + bs < d.size
              · have hmz : (a : Int) + (bs : Int) < (d.size : Int) := by omega
                have hc := symMergeC B blk off cap w0 R T hT (d.size - a) a (a + bs) d.size dk wr S4 (Nat.le_refl _) (by omega) hm (by omega) (by omega) (HP.out.half (by omega) HT.out hm (Nat.le_refl _) (by omega))
                rw [hs, Int.natCast_add] at hc
                clear hs S4
                go_wp2_with fail
                refine hc.mono ?_
                rintro e w2 ⟨rfl, d3, p3, o3, S5⟩
                have HP3 := hidden ((HP.out.step (by omega) (Nat.le_refl _) HT.out (Nat.le_refl _) (Or.inr ⟨rfl, by omega⟩) p3 o3 had).done2 (by omega) HT.out (by omega))
                clear hc p3 o3
                go_wp2
                go_roundg (d.size - bs * 2)
                case measure => omega
                case rel => exact ⟨bs * 2, d3, by go_num, by omega, by omega, Nat.le_refl _, S5, HP3⟩
              · have hmz : ¬ (a : Int) + (bs : Int) < (d.size : Int) := by omega
                have HP3 := hidden (HP.out.done (by omega) HT.out (by omega))
                clear hs
                go_wp2
                go_roundg (d.size - bs * 2)
                case measure => omega
                case rel => exact ⟨bs * 2, dk, by go_num, by omega, by omega, Nat.le_refl _, S4, HP3⟩
        · have hltz : ¬ (bs : Int) < (d.size : Int) := by omega
          have hf := HG.out.final (by omega)
          have HF := hidden hf
          clear hf
          go_wp2
          go_end0
          exact ⟨rfl, dk, HF.out.1, HF.out.2, S3⟩

set_option maxHeartbeats 1000000 in
theorem sortStableC {rk : Array Int} [Inhabited (It rk)] (B blk off cap : Nat) (w0 : World) (R : ∀ W, w0.grownBy W (some blk) → Ranks W B rk) (T : It rk → It rk → Bool) (hT : SWO T) (d : Array (It rk)) (w : World) (S : SC (fun x : It rk => x.1.1) w0 blk off d w) (hsz : d.size < 1152921504606846976) (hA : ∀ i j, i < j → j < d.size → ltR rk d[j]! d[i]! = T d[j]! d[i]!) :
    Calls Try.prog 40 #[.slice (some ⟨blk, off, none⟩) d.size cap, .func (.func 43) #[] #[.pointer (some ⟨B, 0, none⟩)]] w fun e w' => e = .returned (.tuple #[]) ∧ ∃ d' : Array (It rk), PermIn 0 d.size d d' ∧ SortedIn T 0 d.size d' ∧ SC (fun x : It rk => x.1.1) w0 blk off d' w' := by
  have hc := stableC B blk off cap w0 R T hT d w S hsz hA
  clear hA
  go_enter Try.func40, Try.ntmps40
  go_wp2_with fail
  refine hc.mono ?_
  rintro e w2 ⟨rfl, d3, p3, o3, S5⟩
  have HP := hidden p3
  have HO := hidden o3
  clear p3 o3 hc
  go_wp2
  go_end0
  exact ⟨rfl, d3, HP.out, HO.out, S5⟩

end Go.Proofs.Ytfkhfkbkjiekkaa
