/-
  The reference of the stable sort, walked: items laid in one by one by rank.
-/
import Derived.Test.YtfkhfkbkjiekkaaCopy
import Derived.Test.YtfkhfkbkjiekkaaCopyTwo
import Derived.Test.YtfkhfkbkjiekkaaInts
import Derived.Maps.AppendAt
namespace Go.Proofs.Ytfkhfkbkjiekkaa
open Go.RowKit Go.Sort

theorem cells2_append (a b : List (Int × Int)) : cells2 (a ++ b) = cells2 a ++ cells2 b := by unfold cells2; rw [List.flatMap_append]
theorem cells2_take (L : List (Int × Int)) (a : Nat) (h : a ≤ L.length) : (cells2 L).take (a * 2) = cells2 (L.take a) := by
  conv => lhs; rw [← List.take_append_drop a L, cells2_append]
  rw [List.take_left']
  rw [length_cells2, List.length_take, Nat.min_eq_left h]
theorem cells2_drop (L : List (Int × Int)) (a : Nat) (h : a ≤ L.length) : (cells2 L).drop (a * 2) = cells2 (L.drop a) := by
  conv => lhs; rw [← List.take_append_drop a L, cells2_append]
  rw [List.drop_left']
  rw [length_cells2, List.length_take, Nat.min_eq_left h]

theorem ownsRow_items {w : World} {B : Nat} {p : Option Addr} {n cap : Nat} {L : List (Int × Int)} (h : w.ownsRow B 34 2 (.slice p n cap) n (cells2 L)) : n = L.length ∧ Items w p L.toArray := by
  have hl : n = L.length := by have h1 := h.1; rw [length_cells2] at h1; omega
  refine ⟨hl, ?_⟩
  rcases h.2 with ⟨he, h0⟩ | ⟨g, cap', cur, he, hb, hg, _, _, _, ht⟩
  · left; rw [List.size_toArray, ← hl]; exact h0
  · right
    simp only [Value.slice.injEq] at he
    obtain ⟨rfl, _, _⟩ := he
    refine ⟨g, 0, rfl, fun i hi => ?_⟩
    have hi' : i < L.length := by simpa using hi
    rw [getElem!_pos _ i hi, Nat.zero_add, h.cellAt _ (by omega), h.cellAt _ (by omega), cells2_get0 L i hi', cells2_get1 L i hi']
    exact ⟨rfl, rfl⟩

theorem splice_two {α : Type} (l : List α) (a : Nat) (u v : α) (h : a + 1 < l.length) : splice (splice l a [u]) (a + 1) [v] = splice l a [u, v] := by
  unfold splice
  have e1 : (l.take a ++ ([u] ++ l.drop (a + [u].length))).take (a + 1) = l.take a ++ [u] := by
    rw [← List.append_assoc, List.take_left']
    simp; omega
  have e2 : (l.take a ++ ([u] ++ l.drop (a + [u].length))).drop (a + 1 + [v].length) = l.drop (a + 2) := by
    rw [← List.append_assoc, List.drop_append]
    simp
    rw [List.drop_eq_nil_of_le (by simp; omega), List.nil_append]
    congr 1
    omega
  rw [e1, e2]
  simp

section
variable {rk : Array Int}
set_option maxHeartbeats 4000000 in
set_option maxRecDepth 100000 in
theorem specStable_any (p q : Option Addr) (cap cap' : Nat) (d : Array (Int × Int)) (w : World) (hI : Items w p d) (hR : Ints w q rk) (hK : Keyed d rk.size) (hsz : d.size ≤ 2147483647) :
    Calls Try.prog 27 #[.slice p d.size cap, .slice q rk.size cap'] w fun e w' => ∃ r c, e = .returned (.slice r d.size c) ∧ Items w' r (insAll (gtR rk) d.toList).toArray ∧ Below w.heap.size w w' := by
  obtain ⟨i0, hi, hz0, hz1, hz2⟩ := info_parts info34
  go_enter Try.func27, Try.ntmps27
  go_wp2
  go_loopg [5, 11] d.size (fun g1 v vi wr => ∃ (k : Nat) (r : Option Addr) (c : Nat), vi = .int .i64 k ∧ k ≤ d.size ∧ d.size - k ≤ g1 ∧ v = .slice r k c ∧
      wr.ownsRow w.heap.size 34 2 (.slice r k c) k (cells2 (insAll (gtR rk) (d.toList.take k))) ∧ Below w.heap.size w wr)
  case atStart => exact ⟨0, none, 0, rfl, Nat.zero_le _, by omega, rfl, World.ownsRow_nil _ _ _ _, Below.refl _ _⟩
  case round =>
    rename World => wo
    obtain ⟨k, r, c, rfl, hk, hg1, rfl, hown, hB⟩ := hrel
    by_cases hlt : k < d.size
    · obtain ⟨hL, hQ⟩ := ownsRow_items hown
      have hKL : ∀ y, y ∈ insAll (gtR rk) (d.toList.take k) → 0 ≤ y.1 ∧ y.1 < (rk.size : Int) := fun y hy => by
        have h1 := (insAll_perm (gtR rk) _).mem_iff.1 hy
        obtain ⟨i, hi1, rfl⟩ := List.mem_iff_getElem.1 (List.mem_of_mem_take h1)
        have h2 := hK i (by simpa using hi1)
        rwa [getElem!_pos d i (by simpa using hi1)] at h2
      have kx := hK k hlt
      obtain ⟨b, off, rfl, hC⟩ := hI.at hlt
      obtain ⟨rb, ro, rfl, hRC⟩ := hR.at (i := d[k]!.1.toNat) (by omega)
      have hbw : b < w.heap.size := World.block_lt_of_cell? w _ (hC k hlt).1
      have hrw : rb < w.heap.size := World.block_lt_of_cell? w _ (hRC d[k]!.1.toNat (by omega))
      have l1 : wo.cell? ⟨b, off + k * 2, none⟩ = some (.int .i64 d[k]!.1) := (hB.cell (p := ⟨b, off + k * 2, none⟩) hbw).trans (hC k hlt).1
      have l2 : wo.cell? ⟨b, off + k * 2 + 1, none⟩ = some (.int .i64 d[k]!.2) := (hB.cell (p := ⟨b, off + k * 2 + 1, none⟩) hbw).trans (hC k hlt).2
      have HR := hidden (show ∀ i, i < rk.size → wo.cell? ⟨rb, ro + i, none⟩ = some (.int .i64 rk[i]!) from fun i hi => (hB.cell (p := ⟨rb, ro + i, none⟩) hrw).trans (hRC i hi))
      have hstep : insAll (gtR rk) (d.toList.take (k + 1)) = insIn (gtR rk) (insAll (gtR rk) (d.toList.take k)) d[k]! := by
        rw [← insAll_snoc, List.take_succ_eq_append_getElem (by simpa using hlt)]
        congr 3
        rw [getElem!_pos d k hlt]
        rfl
      have HS := hidden hstep
      have HKL := hidden hKL
      clear hstep hC hRC hKL
      generalize d[k]! = x at l1 l2 HS kx
      generalize insAll (gtR rk) (d.toList.take k) = L at hown hL hQ HS HKL
      subst hL
      obtain ⟨x1, x2⟩ := kx
      have HQ := hidden hQ
      clear hQ
      have hws : w.heap.size ≤ wo.heap.size := hB.size
      go_upto_block 2 with fail
      go_cut [8] from 17 to 37 (fun s8 wc => s8 = .int .i64 (insPos (gtR rk) L x L.length) ∧ Dr (wo.alloc (.cells #[.int .i64 x.1, .int .i64 x.2] 34)) wc)
      case first =>
        go_wp2_with fail
        go_loopg [8] L.length (fun g2 va wr => ∃ a : Nat, va = .int .i64 a ∧ a ≤ L.length ∧ a ≤ g2 ∧ Dr (wo.alloc (.cells #[.int .i64 x.1, .int .i64 x.2] 34)) wr ∧ Hid (insPos (gtR rk) L x L.length = insPos (gtR rk) L x a))
        case atStart => exact ⟨L.length, rfl, Nat.le_refl _, Nat.le_refl _, Dr.refl _, hidden rfl⟩
        case round =>
          obtain ⟨a, rfl, ha, hg2, hD, HA⟩ := hrel
          cases a with
          | zero =>
            have hz : decide ((0 : Int) > 0) = false := by decide
            go_wp2_with fail
            go_quiet (fail)
            go_wp2
            go_meet
            case rel => exact ⟨by rw [HA.out]; rfl, hD.drewN nq⟩
          | succ j =>
            have hj : j < L.length := by omega
            obtain ⟨g, o, rfl, hCQ⟩ := HQ.out.at (i := j) (by simpa using hj)
            have hgr : Gr wo wr := ((Gr.refl wo).alloc _).trans hD.gr
            have hst : insPos (gtR rk) L x (j + 1) = if gtR rk L.toArray[j]! x then insPos (gtR rk) L x j else j + 1 := by
              rw [insPos, List.getElem?_eq_getElem hj, getElem!_pos _ j (by simpa using hj)]
              simp
            have ky := HKL.out L.toArray[j]! (by rw [getElem!_pos _ j (by simpa using hj)]; simp)
            have m1 := hgr.kept (hCQ j (by simpa using hj)).1
            have m2 := hgr.kept (HR.out L.toArray[j]!.1.toNat (by omega))
            have m3 := hgr.kept (HR.out x.1.toNat (by omega))
            have m4 : wr.cell? ⟨wo.heap.size, 0, none⟩ = some (.int .i64 x.1) := hD.kept (Box.new wo x).1
            have hrb : rb < wo.heap.size := by omega
            change _ = some (Value.int .i64 (rankOf rk L.toArray[j]!)) at m2
            change _ = some (Value.int .i64 (rankOf rk x)) at m3
            have HT := hidden hst
            clear hst hCQ hgr
            generalize L.toArray[j]! = y at m1 m2 ky HT
            obtain ⟨y1, y2⟩ := ky
            have rj : IntKind.i64.wrap ((j : Int) + 1 - 1) = (j : Int) := by rw [IntKind.wrap_i64]; omega
            have bj : (j : Int) < (L.length : Int) := by omega
            have p0 : (0 : Int) < (j : Int) + 1 := by omega
            by_cases hgt : rankOf rk x < rankOf rk y
            · have hd : decide (rankOf rk x < rankOf rk y) = true := decide_eq_true hgt
              go_wp2_with fail
              go_quiet (fail)
              go_wp2
              go_roundg j
              case measure => omega
              case rel => exact ⟨j, by go_num, by omega, Nat.le_refl _, hD.drewN nq, hidden (by rw [HA.out, HT.out, if_pos (show gtR rk y x = true from decide_eq_true hgt)])⟩
            · have hd : decide (rankOf rk x < rankOf rk y) = false := decide_eq_false hgt
              go_wp2_with fail
              go_quiet (fail)
              go_wp2
              go_meet
              case rel => exact ⟨by rw [HA.out, HT.out, if_neg (show ¬ gtR rk y x = true by unfold gtR; simp; omega)]; rfl, hD.drewN nq⟩
      case rest =>
        obtain ⟨rfl, hD⟩ := hcut
        have hp := insPos_le (gtR rk) L x L.length
        have hlen : (cells2 L).length = L.length * 2 := length_cells2 L
        obtain ⟨a, ea⟩ : ∃ a, a = insPos (gtR rk) L x L.length := ⟨_, rfl⟩
        rw [← ea] at hp ⊢
        have EA := hidden ea
        clear ea
        have hbx : Box wc wo.heap.size x := (Box.new wo x).gr hD.gr
        have hB0 : Below w.heap.size w wc := (hB.alloc hB.size _).trans hD.below
        have hsz0 := hB0.size
        have hown2 : wc.ownsRow w.heap.size 34 2 (.slice r L.length c) L.length (cells2 L) := by
          obtain ⟨n, rfl⟩ := hD
          exact hown.alloc _
        have hbo : ∀ g, (Value.slice r L.length c).ownBlock = some g → g < wo.heap.size := fun g hg => (hown.lt g hg).2
        have HBO := hidden hbo
        have hbl := hbx.lt
        clear hown hbo
        have hc1 : ∀ j u, ([.int .i64 0, .int .i64 0] : List Value)[j]? = some u → (wc.alloc (.cells #[.int .i64 0, .int .i64 0] 34)).cell? ((⟨wc.heap.size, 0, none⟩ : Addr).add j) = some u := fun j u hu => by
          rw [addr_add]
          match j, hu with
          | 0, hu => cases hu; exact (Box.new wc (0, 0)).1
          | 1, hu => cases hu; exact (Box.new wc (0, 0)).2.1
        have HC1 := hidden hc1
        clear hc1
        go_wp2_with (at_builtin; refine wpList_append_own_at _ rfl _ _ 22 rfl w.heap.size 34 i0 (.agg #[.int .i64 0, .int .i64 0]) 2 16 Try.underlying22 hi hz0 hz1 hz2 rfl (by decide) _ _ _ rfl (hown2.alloc _) ⟨wc.heap.size, 0, none⟩ 1 1 [.int .i64 0, .int .i64 0] rfl rfl HC1.out ?c2 ?c3 ?c4 ?c5 ?_)
        case c2 => intro u hu; simp at hu; subst hu; rfl
        case c3 => unfold maxLen; omega
        case c4 => omega
        case c5 => exact Nat.le_trans hB0.size (by simp)
        intro v' w1 hown' hgrow _ hat
        have hB1 : Below w.heap.size w w1 := (hB0.alloc hB0.size _).grown hgrow (Nat.le_trans hB0.size (by simp)) (fun k hk => (hown2.lt k hk).1)
        obtain ⟨g, c', cur, rfl, hg, hblk, hnc, hcm, hcs, htake⟩ := ownsRow_block hown'
        have hgb : g ≠ wo.heap.size := by
          rcases hat with e | e
          · have := HBO.out g e.symm; omega
          · have e2 : g = wc.heap.size + 1 := Option.some.inj e
            omega
        have hbx1 : Box w1 wo.heap.size x := by
          have hkeep := hgrow.block wo.heap.size (by simp; omega) (fun e => by have := HBO.out _ e.symm; omega)
          have h0 := hbx.gr ((Gr.refl wc).alloc (.cells #[.int .i64 0, .int .i64 0] 34))
          obtain ⟨b1, b2, b3, b4⟩ := h0
          exact ⟨(World.cell?_of_block (a := ⟨wo.heap.size, 0, none⟩) hkeep).trans b1, (World.cell?_of_block (a := ⟨wo.heap.size, 1, none⟩) hkeep).trans b2, (World.frozen?_of_block (a := ⟨wo.heap.size, 0, none⟩) hkeep).trans b3, (World.frozen?_of_block (a := ⟨wo.heap.size, 1, none⟩) hkeep).trans b4⟩
        clear hown' hgrow hat hown2 hbx hbl HBO HC1 hD
        have hgl : g < w1.heap.size := (Array.getElem?_eq_some_iff.1 hblk).1
        have w1' : IntKind.i64.wrap ((a : Int) + 1) = (a : Int) + 1 := by rw [IntKind.wrap_i64]; omega
        have z1 : (0 : Int) ≤ (a : Int) + 1 := by omega
        have z2 : (a : Int) + 1 ≤ (L.length : Int) + 1 := by omega
        have z3 : ((a : Int) + 1).toNat = a + 1 := by omega
        have z4 : (a : Int) ≤ (L.length : Int) + 1 := by omega
        have z5 : ¬ c' = a := by omega
        have hsz34 : (Try.prog.info? 34).map (·.size) = some 2 := by rw [hi, Option.map_some, hz1]
        obtain ⟨p1, hp1⟩ : ∃ p1, (if c' = a + 1 then some (⟨g, 0, none⟩ : Addr) else some ⟨g, (a + 1) * 2, none⟩) = p1 := ⟨_, rfl⟩
        obtain ⟨cs, hcs'⟩ : ∃ cs, cs = (cells2 L).drop (a * 2) := ⟨_, rfl⟩
        have hcl : cs.length = (L.length - a) * 2 := by rw [hcs']; simp [length_cells2]; omega
        have hpos : 0 < cs.length → p1 = some ⟨g, (a + 1) * 2, none⟩ ∧ ∃ ad, some (⟨g, a * 2, none⟩ : Addr) = some ad ∧ ∀ j v, cs[j]? = some v → w1.drew.cell? (ad.add j) = some v := fun h => by
          refine ⟨by rw [← hp1, if_neg (by omega)], _, rfl, fun j v hv => ?_⟩
          exact cell_moved (xs := cells2 L) (z := [.int .i64 0, .int .i64 0]) hblk htake (A := a * 2) (by rw [← hcs']; exact hv)
        have HC := hidden hcs'
        have HP := hidden hpos
        have HL := hidden hcl
        clear hcs' hpos hcl
        go_wp2
        have hn : cs.length = Nat.min (L.length + 1 - a) (L.length - a) * 2 := by rw [HL.out, show Nat.min (L.length + 1 - a) (L.length - a) = L.length - a from Nat.min_eq_right (by omega)]
        have hcl2 : cur.toList.length = c' * 2 := Array.length_toList.trans hcs
        have hf : (a + 1) * 2 + cs.length ≤ cur.toList.length := by rw [HL.out, hcl2]; omega
        have ho : ∀ v ∈ cs, v.oneCell' = true := by rw [HC.out]; intro v hv; exact cells2_one L v (List.mem_of_mem_drop hv)
        have hblk' : w1.drew.heap[g]? = some (.cells cur.toList.toArray 34 (0, 0)) := by rw [Array.toArray_toList]; exact hblk
        have HN := hidden hn
        have HF := hidden hf
        have HO := hidden ho
        have HK := hidden hblk'
        have HB := hidden hbx1
        clear hn hf ho hblk' hbx1
        go_region_law (refine step_copy_splice_s rfl (.tmp 45) (.tmp 48) 22 22 rfl 34 2 (by decide) Try.underlying22 hsz34 p1 (some ⟨g, a * 2, none⟩) (L.length - a) (c' - (a + 1)) (L.length + 1 - a) (c' - a) (by simp [Act.eval, Act.put]) (by simp [Act.eval, Act.put]) g ((a + 1) * 2) cur.toList 34 HK.out cs HN.out HP.out HF.out HO.out w.heap.size w hB1.drew hg (fun w2 hg2 hkeep hb2 => ?_))
        have hlsp : (splice cur.toList ((a + 1) * 2) cs).length = c' * 2 := by rw [length_splice _ _ _ HF.out, hcl2]
        obtain ⟨N1, hN1⟩ : ∃ N1, N1 = splice cur.toList ((a + 1) * 2) cs := ⟨_, rfl⟩
        rw [← hN1] at hg2 hlsp
        have HN1 := hidden hN1
        clear hN1
        have hbx2 : Box w2 wo.heap.size x := by
          have hk2 := hkeep.out wo.heap.size (fun e => hgb e.symm)
          obtain ⟨b1, b2, b3, b4⟩ := HB.out
          exact ⟨(World.cell?_of_block (a := ⟨wo.heap.size, 0, none⟩) hk2).trans b1, (World.cell?_of_block (a := ⟨wo.heap.size, 1, none⟩) hk2).trans b2, (World.frozen?_of_block (a := ⟨wo.heap.size, 0, none⟩) hk2).trans b3, (World.frozen?_of_block (a := ⟨wo.heap.size, 1, none⟩) hk2).trans b4⟩
        have c1 : ∀ j, j < c' * 2 → ∃ v, w2.cell? ⟨g, j, none⟩ = some v := fun j hj => ⟨N1[j]'(by omega), by rw [cell_of_row w2 g j _ 34 (0, 0) hg2.out]; simp⟩
        obtain ⟨o1, e1⟩ := c1 (a * 2) (by omega)
        obtain ⟨o2, e2⟩ := c1 (a * 2 + 1) (by omega)
        have e3 : (w2.setCell ⟨g, a * 2, none⟩ (.int .i64 x.1)).cell? ⟨g, a * 2 + 1, none⟩ = some o2 := by
          rw [World.cell?_setCell_other _ _ _ _ (fun q => by have := congrArg Addr.off q; simp only at this; omega)]; exact e2
        have e4 : w2.frozen? ⟨g, a * 2, none⟩ = false := by simp [World.frozen?, hg2.out]
        have e5 : w2.frozen? ⟨g, a * 2 + 1, none⟩ = false := by simp [World.frozen?, hg2.out]
        have hfin : ((w2.setCell ⟨g, a * 2, none⟩ (.int .i64 x.1)).setCell ⟨g, a * 2 + 1, none⟩ (.int .i64 x.2)).ownsRow w.heap.size 34 2 (.slice (some ⟨g, 0, none⟩) (L.length + 1) c') (L.length + 1) (cells2 (insIn (gtR rk) L x)) := by
          have hb3 := heap_setCell_at hg2.out (a := a * 2) (by omega) (.int .i64 x.1)
          have hb4 := heap_setCell_at hb3 (a := a * 2 + 1) (by rw [length_splice _ _ _ (by simp; omega)]; omega) (.int .i64 x.2)
          rw [splice_two _ _ _ _ (by omega)] at hb4
          have hsp := splice_ins (cur := cur.toList) (xs := cells2 L) (z := [.int .i64 0, .int .i64 0]) (news := [.int .i64 x.1, .int .i64 x.2]) (N := L.length * 2) (A := a * 2) (s := 2) hlen rfl rfl (by omega) (by rw [← htake]; congr 1; omega) (by omega)
          rw [← HC.out, show a * 2 + 2 = (a + 1) * 2 by omega, ← HN1.out] at hsp
          have hins : cells2 (insIn (gtR rk) L x) = (cells2 L).take (a * 2) ++ ([.int .i64 x.1, .int .i64 x.2] ++ cs) := by
            rw [HC.out, cells2_take L a hp, cells2_drop L a hp]
            unfold insIn
            rw [← EA.out, cells2_append]
            rfl
          have hl4 : (splice N1 (a * 2) [.int .i64 x.1, .int .i64 x.2]).length = c' * 2 := by rw [length_splice _ _ _ (by simp; omega), hlsp]
          refine ⟨by rw [length_cells2, length_insIn], Or.inr ⟨g, c', _, rfl, hg, hb4, hnc, hcm, ?_, ?_⟩⟩
          · rw [List.size_toArray, hl4]
          · rw [hins, ← hsp]
            congr 1
            omega
        have FIN := hidden hfin
        obtain ⟨b1, b2, _, _⟩ := hbx2
        clear hfin c1 hg2 hlsp
        go_wp2
        go_roundg (d.size - (L.length + 1))
        case measure => omega
        case rel =>
          exact ⟨L.length + 1, _, _, by go_num, by omega, by omega, rfl, by rw [HS.out]; exact FIN.out, (hb2.setCell hg _).setCell hg _⟩
    · have hkd : k = d.size := by omega
      subst hkd
      rw [List.take_of_length_le (by simp)] at hown
      obtain ⟨hl2, hI2⟩ := ownsRow_items hown
      have HI2 := hidden hI2
      clear hI2 hl2
      go_wp2
      go_ret
      exact ⟨_, _, rfl, HI2.out, hB⟩
end

end Go.Proofs.Ytfkhfkbkjiekkaa
