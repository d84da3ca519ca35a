/-
  spec.Mixed, walked: of two rows of the same items it says yes.
-/
import Derived.Test.YtfkhfkbkjiekkaaMapKit
import Derived.BigRegion
import Derived.Deep.LoopGhost
import Derived.Test.YtfkhfkbkjiekkaaCmp
namespace Go.Proofs.Ytfkhfkbkjiekkaa
open Go.RowKit Go.Maps

set_option maxHeartbeats 2000000 in
theorem mixed_any (p q : Option Addr) (cap cap' : Nat) (a b : Array (Int × Int)) (w : World) (hI : Items w p a) (hJ : Items w q b) (hp : a.toList.Perm b.toList) (hsz : a.size ≤ 4096)
    (wa : ∀ i, i < a.size → (Lit.int .i64 a[i]!.1).wf = true ∧ (Lit.int .i64 a[i]!.2).wf = true) (wb : ∀ i, i < b.size → (Lit.int .i64 b[i]!.1).wf = true ∧ (Lit.int .i64 b[i]!.2).wf = true) :
    Calls Try.prog 29 #[.slice p a.size cap, .slice q b.size cap'] w fun e w' => e = .returned (.bool true) ∧ Below w.heap.size w w' := by
  have hs : b.size = a.size := by have := hp.length_eq; simpa using this.symm
  have hsb : ((a.size : Int) != (a.size : Int)) = false := by simp
  rw [hs]
  have HS := hidden hs
  clear hs
  have hmm := @run_makeMap Try.prog
  go_enter Try.func29, Try.ntmps29
  go_wp2
  go_loopg [17] a.size (fun g vi wr => ∃ (i n : Nat) (D : DataW Unit), vi = .int .i64 i ∧ i ≤ a.size ∧ a.size - i ≤ g ∧ MapAt wr w.heap.size n D ∧ n ≤ 2 * i ∧ Hid (Bal D (a.toList.take i) (b.toList.take i)) ∧ Below w.heap.size w wr)
  case atStart => exact ⟨0, 0, .map [], rfl, Nat.zero_le _, Nat.le_refl _, World.ownsMap_made _ _ _ _, Nat.le_refl _, hidden Bal.start, (Below.refl _ _).alloc (Nat.le_refl _) _⟩
  case round =>
    obtain ⟨i, n, D, rfl, hi, hg, hM, hn, HB, hW⟩ := hrel
    by_cases hlt : i < a.size
    · obtain ⟨bk, off, rfl, hC⟩ := hI.at hlt
      obtain ⟨bk', off', rfl, hC'⟩ := hJ.at (i := i) (by rw [HS.out]; exact hlt)
      have hb1 : bk < w.heap.size := World.block_lt_of_cell? w _ (hC i hlt).1
      have hb2 : bk' < w.heap.size := World.block_lt_of_cell? w _ (hC' i (by rw [HS.out]; exact hlt)).1
      have l1 : wr.cell? ⟨bk, off + i * 2, none⟩ = some (.int .i64 a[i]!.1) := (hW.cell (p := ⟨bk, off + i * 2, none⟩) hb1).trans (hC i hlt).1
      have l2 : wr.cell? ⟨bk, off + i * 2 + 1, none⟩ = some (.int .i64 a[i]!.2) := (hW.cell (p := ⟨bk, off + i * 2 + 1, none⟩) hb1).trans (hC i hlt).2
      have m0 := hC' i (by rw [HS.out]; exact hlt)
      have w0 := wa i hlt
      have w1 := wb i (by rw [HS.out]; exact hlt)
      have e1 : a.toList.take (i + 1) = a.toList.take i ++ [a[i]!] := by
        rw [List.take_succ_eq_append_getElem (by simpa using hlt), getElem!_pos a i hlt]; rfl
      have e2 : b.toList.take (i + 1) = b.toList.take i ++ [b[i]!] := by
        have h : i < b.size := by rw [HS.out]; exact hlt
        rw [List.take_succ_eq_append_getElem (by simpa using h), getElem!_pos b i h]; rfl
      have H1 := hidden e1
      have H2 := hidden e2
      have HW1 := hidden w1
      have p1 : (i : Int) < (a.size : Int) := by omega
      have la : (a.toList.take i).length ≤ 4096 := by simp; omega
      have lb : (b.toList.take i).length ≤ 4096 := by have := HS.out; simp; omega
      clear e1 e2 w1 hC hC'
      have M0 := hidden m0
      clear m0
      generalize a[i]! = x at l1 l2 w0 H1
      generalize b[i]! = y at M0 H2 HW1
      generalize a.toList.take i = A at HB H1 la
      generalize b.toList.take i = B at HB H2 lb
      have hMd : MapAt wr.drew w.heap.size n D := World.ownsMap.drew hM
      have hl := look_at hMd HB.out w0.1 w0.2
      obtain ⟨v0, st, w2, hE, hg1, hst⟩ := entry_step hMd (by unfold maxLen; omega) (key34 x.1 x.2 w0.1 w0.2)
      obtain ⟨D1, hM1, hB1⟩ := entry_reads hMd (by unfold maxLen; omega) HB.out (key34 x.1 x.2 w0.1 w0.2) _ _ hE
      have hl1 := look_at hM1 hB1 w0.1 w0.2
      have hr := balance_le A B (klOf x)
      have hwr : IntKind.i64.wrap (balance A B (klOf x) + 1) = balance A B (klOf x) + 1 := by rw [IntKind.wrap_i64]; omega
      obtain ⟨w3, hS, hM3, hg3⟩ := hst (balance A B (klOf x) + 1) (WalkArith.wf_i64 (by omega))
      have HB3 := hidden (Bal.more hM.isMap HB.out x)
      have hW3 : Below w.heap.size w w3 := hW.drew.grown hg3 hW.size (fun k hk => by cases hk; exact Nat.le_refl _)
      clear hst hr
      have HM3 := hidden hM3
      clear hM3
      go_wp2_with fail
      go_region
      clear hl hl1 hE hS hwr hM1 hB1 hMd hg1 hg3 l1 l2
      have hM3 := HM3.out
      have l1 : w3.cell? ⟨bk', off' + i * 2, none⟩ = some (.int .i64 y.1) := (hW3.cell (p := ⟨bk', off' + i * 2, none⟩) hb2).trans M0.out.1
      have l2 : w3.cell? ⟨bk', off' + i * 2 + 1, none⟩ = some (.int .i64 y.2) := (hW3.cell (p := ⟨bk', off' + i * 2 + 1, none⟩) hb2).trans M0.out.2
      have w1 := HW1.out
      have hMd : MapAt w3.drew w.heap.size (n + 1) _ := World.ownsMap.drew hM3
      have hl := look_at hMd HB3.out w1.1 w1.2
      obtain ⟨v0', st', w4, hE, hg1, hst⟩ := entry_step hMd (by unfold maxLen; omega) (key34 y.1 y.2 w1.1 w1.2)
      obtain ⟨D1', hM1, hB1⟩ := entry_reads hMd (by unfold maxLen; omega) HB3.out (key34 y.1 y.2 w1.1 w1.2) _ _ hE
      have hl1 := look_at hM1 hB1 w1.1 w1.2
      have hr := balance_le (A ++ [x]) B (klOf y)
      simp only [List.length_append, List.length_cons, List.length_nil] at hr
      have hwr : IntKind.i64.wrap (balance (A ++ [x]) B (klOf y) - 1) = balance (A ++ [x]) B (klOf y) - 1 := by rw [IntKind.wrap_i64]; omega
      obtain ⟨w5, hS, hM5, hg5⟩ := hst (balance (A ++ [x]) B (klOf y) - 1) (WalkArith.wf_i64 (by omega))
      have HB5 := hidden (Bal.less hM3.isMap HB3.out y)
      have hW5 : Below w.heap.size w w5 := hW3.drew.grown hg5 hW3.size (fun k hk => by cases hk; exact Nat.le_refl _)
      have HM5 := hidden hM5
      clear hst hr hM5 hM3 HM3
      go_wp2_with fail
      go_region
      clear hl hl1 hE hS hwr hM1 hB1 hMd hg1 hg5 l1 l2
      go_wp2
      go_roundg (a.size - (i + 1))
      case measure => omega
      case rel => exact ⟨i + 1, n + 1 + 1, _, by go_num, by omega, Nat.le_refl _, HM5.out, by omega, hidden (by rw [H1.out, H2.out]; exact HB5.out), hW5⟩
    · obtain rfl : i = a.size := by omega
      have hz : ∀ kl, D.atKey kl (.lit (.int .i64 0)) = .lit (.int .i64 0) := fun kl => by
        rw [HB.out kl, List.take_of_length_le (by simp), List.take_of_length_le (by have := HS.out; simp; omega), balance_perm hp]
      have HZ := hidden hz
      clear hz HB wa wb
      go_wp2_with (at_range; refine wpList_range_own _ rfl _ _ rfl 34 3 law34 u47 _ _ n D rfl hM ?_; intro w0 hrg0 hg0 hs0)
      have hW0 : Below w.heap.size w w0 := hW.grown hg0 hW.size (fun k hk => by cases hk)
      have hwr : w.heap.size ≤ wr.heap.size := hW.size
      obtain ⟨rb, hrb⟩ : ∃ rb, rb = wr.heap.size := ⟨_, rfl⟩
      rw [← hrb] at hrg0 hwr ⊢
      clear hrb hg0 hs0 hM hW
      go_frame
      go_loopg [8] (size D) (fun g s8 wq => ∃ (left : Lit → Bool) (cnt : Nat), cnt ≤ g ∧ wq.ranges Try.prog 34 (plainElem Try.prog 3) w.heap.size rb n D left cnt ∧ Below w.heap.size w wq)
      case atStart => exact ⟨_, _, Nat.le_refl _, hrg0, hW0⟩
      case round =>
        clear hrg0 hW0
        obtain ⟨left, cnt, hcg, hrg, hWq⟩ := hrel
        go_wp2_with (at_next; refine wpList_next_ranges (α := Value) (β := Int) _ rfl _ rfl 34 law34 (plainElem Try.prog 3) (fun x => x) (fun c => .int .i64 c) (fun key kl _ => ⟨key, rfl⟩) (fun v y hv => by
          obtain ⟨c, rfl, _, _⟩ := plainElem_int_inv Try.underlying3 hv
          exact ⟨c, rfl⟩) w.heap.size rb n D _ _ rfl hrg ?_ ?_)
        · intro _ _
          go_wp2
          go_ret
          exact ⟨rfl, hWq⟩
        · intro x c kl y ps w1 cnt1 hkx hlx hRy hat hrg1 hlt1 hg1 hs1 hen
          have hc : c = 0 := by
            obtain ⟨c', he, hy, _⟩ := plainElem_int_inv Try.underlying3 hRy
            injection he with _ he
            have h1 := hat (.lit (.int .i64 0))
            rw [HZ.out kl] at h1
            injection hy with hy _
            rw [hy] at h1
            injection h1 with h1
            injection h1 with _ h1
            rw [he, ← h1]
          subst hc
          have hW1 : Below w.heap.size w w1 := hWq.grown hg1 hWq.size (fun k hk => by cases hk; exact hwr)
          clear hat hRy hlx hkx
          go_wp2
          go_roundg cnt1
          case measure => omega
          case rel => exact ⟨_, cnt1, Nat.le_refl _, hrg1, hW1⟩

end Go.Proofs.Ytfkhfkbkjiekkaa
