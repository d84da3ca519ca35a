/-
  The reference 'Sorted': a new slice that holds the numbers, each laid in by insertion.
-/
import Derived.Test.YtfkhfkbkjiekkaaCmp
import Derived.Test.YtfkhfkbkjiekkaaPlain
import Derived.Deep.LoopGhost
import Derived.Deep.CutRange
import Derived.Deep.CutBlock
import Derived.Laws.CopyOwn
namespace Go.Proofs.Ytfkhfkbkjiekkaa
open Go.RowKit Go.Sort

theorem info3 : (Try.prog.info? 3).map (fun i => (i.zero, i.size, i.bytes)) = some (some (.int .i64 0), 1, 8) := by kernel_rfl

theorem ownsRow_form {w : World} {B : Nat} {e : TypeId} {size : Nat} {v : Value} {n : Nat} {xs : List Value} (h : w.ownsRow B e size v n xs) : ∃ p cap, v = .slice p n cap := by
  rcases h.2 with ⟨rfl, rfl⟩ | ⟨g, cap, _, rfl, _⟩
  · exact ⟨_, _, rfl⟩
  · exact ⟨_, _, rfl⟩

/-- an owned row of numbers is read as such -/
theorem ownsRow_ints {w : World} {B : Nat} {p : Option Addr} {n cap : Nat} {L : List Int} (h : w.ownsRow B 3 1 (.slice p n cap) n (L.map (Value.int .i64))) : n = L.length ∧ Ints w p L.toArray := by
  have hl : n = L.length := by have h1 := h.1; rw [List.length_map] at h1; omega
  refine ⟨hl, ?_⟩
  rcases h.2 with ⟨he, h0⟩ | ⟨g, cap', cur, he, hb, hg, _, _, _, ht⟩
  · left; rw [List.size_toArray, ← hl]; exact h0
  · right
    simp only [Value.slice.injEq] at he
    obtain ⟨rfl, _, _⟩ := he
    refine ⟨g, 0, rfl, fun i hi => ?_⟩
    have hi' : i < L.length := by simpa using hi
    have := h.cells (g := g) rfl i (.int .i64 L.toArray[i]!) (by rw [getElem!_pos _ i hi]; simp [hi'])
    rwa [show ((⟨g, 0, none⟩ : Addr).add i) = ⟨g, 0 + i, none⟩ from by unfold Addr.add; split <;> simp_all] at this

/-- an owned row that is not empty, and its block -/
theorem ownsRow_block {w : World} {B : Nat} {e : TypeId} {size : Nat} {v : Value} {n : Nat} {xs : List Value} (h : w.ownsRow B e size v (n + 1) xs) :
    ∃ g c cur, v = .slice (some ⟨g, 0, none⟩) (n + 1) c ∧ B ≤ g ∧ w.heap[g]? = some (.cells cur e (0, 0)) ∧ n + 1 ≤ c ∧ c ≤ maxLen ∧ cur.size = c * size ∧ cur.toList.take ((n + 1) * size) = xs := by
  rcases h.2 with ⟨_, h0⟩ | h
  · cases h0
  · exact h

theorem heap_setCell_at {w : World} {g a : Nat} {l : List Value} {t : TypeId} (h : w.heap[g]? = some (.cells l.toArray t (0, 0))) (ha : a < l.length) (v : Value) :
    (w.setCell ⟨g, a, none⟩ v).heap[g]? = some (.cells (splice l a [v]).toArray t (0, 0)) := by
  rw [setCell_eq_setRow w g a l.toArray t (0, 0) v h, setRow_heap w g l.toArray _ t _ h]
  congr 2
  apply Array.ext'
  simp only [splice, List.length_singleton, List.singleton_append, List.setIfInBounds_toArray]
  rw [List.set_eq_take_append_cons_drop, if_pos ha]

theorem cell_moved {w : World} {g A n : Nat} {cur : Array Value} {t : TypeId} {xs z : List Value} (h : w.heap[g]? = some (.cells cur t (0, 0))) (ht : cur.toList.take n = xs ++ z) {j : Nat} {v : Value} (hv : (xs.drop A)[j]? = some v) :
    w.drew.cell? ((⟨g, A, none⟩ : Addr).add j) = some v := by
  rw [show ((⟨g, A, none⟩ : Addr).add j) = ⟨g, A + j, none⟩ from by unfold Addr.add; split <;> simp_all]
  show w.cell? _ = _
  rw [cell_of_row w g (A + j) cur t (0, 0) h]
  rw [List.getElem?_drop] at hv
  have h1 : (xs ++ z)[A + j]? = some v := by
    rw [List.getElem?_append_left (List.getElem?_eq_some_iff.1 hv).1]; exact hv
  rw [← ht, List.getElem?_take] at h1
  split at h1
  · simpa using h1
  · cases h1

/-- the cells behind an insertion: room made at the end, what stood from A on moved up, the new ones laid in -/
theorem splice_ins {cur xs z news : List Value} {N A s : Nat} (hx : xs.length = N) (hz : z.length = s) (hn : news.length = s) (hA : A ≤ N) (ht : cur.take (N + s) = xs ++ z) (hc : N + s ≤ cur.length) :
    (splice (splice cur (A + s) (xs.drop A)) A news).take (N + s) = xs.take A ++ (news ++ xs.drop A) := by
  have e1 : cur.take A = xs.take A := by
    have : (cur.take (N + s)).take A = (xs ++ z).take A := by rw [ht]
    rw [List.take_take, Nat.min_eq_left (by omega), List.take_append_of_le_length (by omega)] at this
    exact this
  have l1 : (cur.take (A + s)).length = A + s := by rw [List.length_take]; omega
  have l2 : (xs.drop A).length = N - A := by rw [List.length_drop, hx]
  unfold splice
  rw [l2, hn, show A + s + (N - A) = N + s by omega]
  have t1 : (cur.take (A + s) ++ (xs.drop A ++ cur.drop (N + s))).take A = xs.take A := by
    rw [List.take_append_of_le_length (by omega), List.take_take, Nat.min_eq_left (by omega), e1]
  have t2 : (cur.take (A + s) ++ (xs.drop A ++ cur.drop (N + s))).drop (A + s) = xs.drop A ++ cur.drop (N + s) := by
    rw [List.drop_append_of_le_length (by omega), List.drop_eq_nil_of_le (by omega), List.nil_append]
  rw [t1, t2, ← List.append_assoc, ← List.append_assoc, List.take_append_of_le_length]
  · rw [List.take_of_length_le, List.append_assoc]
    simp only [List.length_append, List.length_take, l2, hx, hn]
    omega
  · simp only [List.length_append, List.length_take, l2, hx, hn]
    omega

set_option maxHeartbeats 400000 in
theorem sorted_any (p : Option Addr) (cap : Nat) (d : Array Int) (w : World) (hI : Ints w p d) (hsz : d.size ≤ 4096) :
    Calls Try.prog 17 #[.slice p d.size cap] w fun e w' =>
      ∃ q c, e = .returned (.slice q d.size c) ∧ w'.ownsRow w.heap.size 3 1 (.slice q d.size c) d.size ((insAll gtInt d.toList).map (Value.int .i64)) ∧ Below w.heap.size w w' := by
  obtain ⟨i0, hi, hz0, hz1, hz2⟩ := info_parts info3
  go_enter Try.func17, Try.ntmps17
  go_wp2
  go_loopg [3, 9] d.size (fun g1 v vi wr => ∃ (k : Nat) (q : Option Addr) (c : Nat), vi = .int .i64 k ∧ k ≤ d.size ∧ d.size - k ≤ g1 ∧ v = .slice q k c ∧
      wr.ownsRow w.heap.size 3 1 (.slice q k c) k ((insAll gtInt (d.toList.take k)).map (Value.int .i64)) ∧ Below w.heap.size w wr)
  case atStart => exact ⟨0, none, 0, rfl, Nat.zero_le _, by omega, rfl, World.ownsRow_nil _ _ _ _, Below.refl _ _⟩
  case round =>
    obtain ⟨k, q, c, rfl, hk, hg1, rfl, hown, hB⟩ := hrel
    by_cases hlt : k < d.size
    · obtain ⟨hL, hQ⟩ := ownsRow_ints hown
      obtain ⟨b, off, rfl, hC⟩ := hI.at hlt
      have hbw : b < w.heap.size := World.block_lt_of_cell? w _ (hC k hlt)
      have l1 : wr.cell? ⟨b, off + k, none⟩ = some (.int .i64 d[k]!) := (hB.cell (p := ⟨b, off + k, none⟩) hbw).trans (hC k hlt)
      have hstep : insAll gtInt (d.toList.take (k + 1)) = insIn gtInt (insAll gtInt (d.toList.take k)) d[k]! := by
        rw [← insAll_snoc, List.take_succ_eq_append_getElem (by simpa using hlt)]
        congr 3
        rw [getElem!_pos d k hlt]
        rfl
      have HS := hidden hstep
      clear hstep hC
      generalize d[k]! = x at l1 HS
      generalize insAll gtInt (d.toList.take k) = L at hown hL hQ HS
      subst hL
      go_upto_block 2 with fail
      go_cut [6] from 10 to 43 (fun s6 wc => s6 = .int .i64 (insPos gtInt L x L.length) ∧ wc = wr)
      case first =>
        go_wp2
        go_loop [6] (fun va => ∃ a : Nat, va = .int .i64 a ∧ a ≤ L.length ∧ Hid (insPos gtInt L x L.length = insPos gtInt L x a)) (fun va => (intOf va).toNat)
        case atStart => exact ⟨L.length, rfl, Nat.le_refl _, hidden rfl⟩
        case round =>
          obtain ⟨a, rfl, ha, HA⟩ := hrel
          cases a with
          | zero =>
            go_wp2
            go_meet
            case rel => exact ⟨by rw [HA.out]; rfl, rfl⟩
          | succ j =>
            have hj : j < L.length := by omega
            obtain ⟨g, o, rfl, hCQ⟩ := hQ.at (i := j) (by simpa using hj)
            have l2 := hCQ j (by simpa using hj)
            have hst : insPos gtInt L x (j + 1) = if gtInt L.toArray[j]! x then insPos gtInt L x j else j + 1 := by
              rw [insPos, List.getElem?_eq_getElem hj, getElem!_pos _ j (by simpa using hj)]
              simp
            have HT := hidden hst
            clear hst hCQ
            generalize L.toArray[j]! = y at l2 HT
            by_cases hgt : x < y
            · go_wp2
              go_round
              case rel => exact ⟨j, by go_num, by omega, hidden (by rw [HA.out, HT.out, if_pos (show gtInt y x = true from decide_eq_true hgt)])⟩
              case measure => simp [intOf]
            · go_wp2
              go_meet
              case rel => exact ⟨by rw [HA.out, HT.out, if_neg (show ¬ gtInt y x = true by unfold gtInt; simp; omega)]; rfl, rfl⟩
      case rest =>
        obtain ⟨rfl, rfl⟩ := hcut
        have hp := insPos_le gtInt L x L.length
        have hlen : (L.map (Value.int .i64)).length = L.length := by simp
        obtain ⟨a, ea⟩ : ∃ a, a = insPos gtInt L x L.length := ⟨_, rfl⟩
        rw [← ea] at hp ⊢
        have EA := hidden ea
        clear ea
        go_wp2_with (at_builtin; refine wpList_append_own _ rfl _ _ 23 rfl w.heap.size 3 i0 (.int .i64 0) 1 8 Try.underlying23 hi hz0 hz1 hz2 rfl (by decide) _ _ _ rfl (hown.alloc _) ⟨wc.heap.size, 0, none⟩ 1 1 [.int .i64 0] rfl rfl ?c1 ?c2 ?c3 ?c4 ?c5 ?_)
        case c1 => exact cell_one_new _ _ _
        case c2 => intro u hu; simp at hu; subst hu; rfl
        case c3 => unfold maxLen; omega
        case c4 => omega
        case c5 => exact Nat.le_trans hB.size (by simp)
        intro v' w1 hown' hgrow _
        have hB1 : Below w.heap.size w w1 := (hB.alloc hB.size _).grown hgrow (Nat.le_trans hB.size (by simp)) (fun k hk => (hown.lt k hk).1)
        obtain ⟨g, c', cur, rfl, hg, hblk, hnc, hcm, hcs, htake⟩ := ownsRow_block hown'
        clear hown hown' hgrow hQ
        have hgl : g < w1.heap.size := (Array.getElem?_eq_some_iff.1 hblk).1
        have w1' : IntKind.i64.wrap ((a : Int) + 1) = (a : Int) + 1 := by rw [IntKind.wrap_i64]; omega
        have z1 : (0 : Int) ≤ (a : Int) + 1 := by omega
        have z2 : (a : Int) + 1 ≤ (L.length : Int) + 1 := by omega
        have z3 : ((a : Int) + 1).toNat = a + 1 := by omega
        have z4 : (a : Int) ≤ (L.length : Int) + 1 := by omega
        have z5 : ¬ c' = a := by omega
        have hsz3 : (Try.prog.info? 3).map (·.size) = some 1 := by rw [hi, Option.map_some, hz1]
        obtain ⟨p1, hp1⟩ : ∃ p1, (if c' = a + 1 then some (⟨g, 0, none⟩ : Addr) else some ⟨g, a + 1, none⟩) = p1 := ⟨_, rfl⟩
        obtain ⟨cs, hcs'⟩ : ∃ cs, cs = (L.map (Value.int .i64)).drop a := ⟨_, rfl⟩
        have hcl : cs.length = L.length - a := by rw [hcs']; simp
        have hpos : 0 < cs.length → p1 = some ⟨g, a + 1, none⟩ ∧ ∃ ad, some (⟨g, a, none⟩ : Addr) = some ad ∧ ∀ j v, cs[j]? = some v → w1.drew.cell? (ad.add j) = some v := fun h => by
          refine ⟨by rw [← hp1, if_neg (by omega)], _, rfl, fun j v hv => ?_⟩
          exact cell_moved (xs := L.map (Value.int .i64)) (z := [.int .i64 0]) hblk htake (A := a) (by rw [← hcs']; exact hv)
        have HC := hidden hcs'
        have HP := hidden hpos
        have HL := hidden hcl
        clear hcs' hpos hcl
        go_wp2
        have hn : cs.length = Nat.min (L.length + 1 - a) (L.length - a) := by rw [HL.out]; exact (Nat.min_eq_right (by omega)).symm
        have hf : a + 1 + cs.length ≤ cur.toList.length := by have h1 : cur.toList.length = cur.size := Array.length_toList; rw [HL.out]; omega
        have ho : ∀ v ∈ cs, v.oneCell' = true := by rw [HC.out]; intro v hv; have := List.mem_of_mem_drop hv; simp at this; obtain ⟨_, _, rfl⟩ := this; rfl
        have hblk' : w1.drew.heap[g]? = some (.cells cur.toList.toArray 3 (0, 0)) := by rw [Array.toArray_toList]; exact hblk
        have HN := hidden hn
        have HF := hidden hf
        have HO := hidden ho
        have HK := hidden hblk'
        clear hn hf ho hblk'
        go_region_law (refine step_copy_splice rfl (.tmp 34) (.tmp 37) 23 23 rfl 3 Try.underlying23 hsz3 p1 (some ⟨g, a, none⟩) (L.length - a) (c' - (a + 1)) (L.length + 1 - a) (c' - a) (by simp [Act.eval, Act.put]) (by simp [Act.eval, Act.put]) g (a + 1) cur.toList 3 HK.out cs HN.out HP.out HF.out HO.out w.heap.size w hB1.drew hg (fun w2 hg2 hb2 => ?_))
        have hlsp : (splice cur.toList (a + 1) cs).length = c' := by
          have h1 : cur.toList.length = cur.size := Array.length_toList
          rw [length_splice _ _ _ HF.out]
          omega
        have hcell : w2.cell? ⟨g, a, none⟩ = some ((splice cur.toList (a + 1) cs)[a]'(by omega)) := by
          rw [cell_of_row w2 g a _ 3 (0, 0) hg2.out]
          simp
        have hfro : w2.frozen? ⟨g, a, none⟩ = false := by simp [World.frozen?, hg2.out]
        have hfin : (w2.setCell ⟨g, a, none⟩ (.int .i64 x)).ownsRow w.heap.size 3 1 (.slice (some ⟨g, 0, none⟩) (L.length + 1) c') (L.length + 1) ((insIn gtInt L x).map (Value.int .i64)) := by
          have h1 : cur.toList.length = cur.size := Array.length_toList
          have hb3 := heap_setCell_at hg2.out (a := a) (by omega) (.int .i64 x)
          have hsp := splice_ins (cur := cur.toList) (xs := L.map (Value.int .i64)) (z := [.int .i64 0]) (news := [.int .i64 x]) (N := L.length) (A := a) (s := 1) (by simp) rfl rfl hp (by rw [← htake, Nat.mul_one]) (by omega)
          rw [← HC.out] at hsp
          have hins : (insIn gtInt L x).map (Value.int .i64) = (L.map (Value.int .i64)).take a ++ ([.int .i64 x] ++ cs) := by
            rw [HC.out]
            unfold insIn
            rw [← EA.out]
            simp
          refine ⟨by rw [hins, ← hsp, List.length_take, length_splice _ _ _ (by rw [hlsp]; simp; omega), hlsp]; omega, Or.inr ⟨g, c', _, rfl, hg, hb3, hnc, hcm, ?_, ?_⟩⟩
          · rw [List.size_toArray, length_splice _ _ _ (by rw [hlsp]; simp; omega), hlsp, Nat.mul_one]
          · rw [hins, ← hsp, Nat.mul_one]
        have FIN := hidden hfin
        clear hfin
        generalize (splice cur.toList (a + 1) cs)[a] = old at hcell
        go_wp2
        go_roundg (d.size - (L.length + 1))
        case measure => omega
        case rel =>
          exact ⟨L.length + 1, _, _, by go_num, by omega, by omega, rfl, by rw [HS.out]; exact FIN.out, hb2.setCell hg _⟩
    · have hkd : k = d.size := by omega
      subst hkd
      rw [List.take_of_length_le (by simp)] at hown
      go_wp2
      go_ret
      exact ⟨_, _, rfl, hown, hB⟩

end Go.Proofs.Ytfkhfkbkjiekkaa
