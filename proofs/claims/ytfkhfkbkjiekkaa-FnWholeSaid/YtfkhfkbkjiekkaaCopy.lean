/-
  'append([]Item{}, data...)' and 'append([]int{}, data...)': a row of one's own; and the stable sort of it.
-/
import Derived.Test.YtfkhfkbkjiekkaaStb
import Derived.Test.YtfkhfkbkjiekkaaTags
import Derived.Test.YtfkhfkbkjiekkaaLawInOrder
import Derived.Test.YtfkhfkbkjiekkaaSorted
namespace Go.Proofs.Ytfkhfkbkjiekkaa
open Go.RowKit Go.Sort

theorem info34 : (Try.prog.info? 34).map (fun i => (i.zero, i.size, i.bytes)) = some (some (.agg #[.int .i64 0, .int .i64 0]), 2, 16) := by kernel_rfl

section
variable {P : Program} {w : World}
theorem run_append_nothing (base : Nat) (t ty e : TypeId) (i : TypeInfo) (size c : Nat) (ht : P.underlying t = some (.slice e)) (hi : P.info? e = some i)
    (v : Value) (n : Nat) (xs : List Value) (hown : w.ownsRow base e size v n xs) : (Builtin.append_ #[t, t] ty #[v, .slice none 0 c]).run P w = .ok v w := by
  rcases hown.2 with ⟨rfl, rfl⟩ | ⟨g, cap, cur, rfl, _, _, hnc, _⟩
  · simp [Builtin.append_, run_underlying ht, sizeOf, typeInfo, hi, Builtin.lenOf, Builtin.firstCells]
  · simp [Builtin.append_, run_underlying ht, sizeOf, typeInfo, hi, Builtin.lenOf, Builtin.firstCells, hnc, storeCells]

theorem wpList_append_nothing {ops : Array Oper} {rest : List Oper} {o : Oper} {a : Act} {Q : Exit → Act → World → Prop} (hgd : o.guard = none) (s x : Operand) (t : TypeId)
    (ho : o.op = .call { callee := .builtin .append, args := #[s, x], argTypes := #[t, t] })
    (base : Nat) (e : TypeId) (i : TypeInfo) (size c : Nat) (ht : P.underlying t = some (.slice e)) (hi : P.info? e = some i)
    (v : Value) (n : Nat) (xs : List Value) (hs : a.eval s = v) (hown : w.ownsRow base e size v n xs) (hx : a.eval x = .slice none 0 c)
    (h : wpList P ops Q rest (a.put o.dst v) w) : wpList P ops Q (o :: rest) a w := by
  refine wpList_plain hgd fun K hK => ?_
  have hrun := run_append_nothing (P := P) (w := w) base t o.type e i size c ht hi v n xs hown
  unfold Oper.wp
  simp [execOp, ho, resolve, invoke, builtin, hs, hx, hrun, Result.andThen]
  exact hK _ _ h
end

theorem addr_add (b off i : Nat) : (⟨b, off, none⟩ : Addr).add i = ⟨b, off + i, none⟩ := by unfold Addr.add; split <;> simp_all

/-- the cells of a row of items -/
def cells2 (l : List (Int × Int)) : List Value := l.flatMap fun x => [.int .i64 x.1, .int .i64 x.2]
theorem length_cells2 (l : List (Int × Int)) : (cells2 l).length = l.length * 2 := by
  induction l with
  | nil => rfl
  | cons x l ih => unfold cells2 at *; rw [List.flatMap_cons, List.length_append, ih]; simp; omega
theorem cells2_get0 : ∀ (l : List (Int × Int)) (i : Nat) (h : i < l.length), (cells2 l)[i * 2]? = some (.int .i64 l[i].1)
  | x :: l, 0, _ => rfl
  | x :: l, i + 1, h => by
    have := cells2_get0 l i (by simpa using h)
    unfold cells2 at *
    rw [List.flatMap_cons, List.getElem?_append_right (by simp; omega)]
    simp only [List.length_cons, List.length_nil, List.getElem_cons_succ]
    rw [show (i + 1) * 2 - (0 + 1 + 1) = i * 2 by omega]
    exact this
theorem cells2_get1 : ∀ (l : List (Int × Int)) (i : Nat) (h : i < l.length), (cells2 l)[i * 2 + 1]? = some (.int .i64 l[i].2)
  | x :: l, 0, _ => rfl
  | x :: l, i + 1, h => by
    have := cells2_get1 l i (by simpa using h)
    unfold cells2 at *
    rw [List.flatMap_cons, List.getElem?_append_right (by simp; omega)]
    simp only [List.length_cons, List.length_nil, List.getElem_cons_succ]
    rw [show (i + 1) * 2 + 1 - (0 + 1 + 1) = i * 2 + 1 by omega]
    exact this
theorem cells2_one (l : List (Int × Int)) : ∀ u ∈ cells2 l, u.oneCell' = true := by
  intro u hu
  unfold cells2 at hu
  obtain ⟨x, _, hx⟩ := List.mem_flatMap.1 hu
  simp at hx
  rcases hx with rfl | rfl <;> rfl
/-- which place's which cell -/
theorem cells2_cases {l : List (Int × Int)} {j : Nat} {u : Value} (h : (cells2 l)[j]? = some u) : ∃ i, ∃ hi : i < l.length, (j = i * 2 ∧ u = .int .i64 l[i].1) ∨ (j = i * 2 + 1 ∧ u = .int .i64 l[i].2) := by
  have hj : j < l.length * 2 := by
    rw [← length_cells2]
    exact (List.getElem?_eq_some_iff.1 h).1
  have hi : j / 2 < l.length := by omega
  refine ⟨j / 2, hi, ?_⟩
  by_cases e : j % 2 = 0
  · left
    have e2 : j = j / 2 * 2 := by omega
    rw [e2, cells2_get0 l _ hi] at h
    exact ⟨e2, (Option.some.inj h).symm⟩
  · right
    have e2 : j = j / 2 * 2 + 1 := by omega
    rw [e2, cells2_get1 l _ hi] at h
    exact ⟨e2, (Option.some.inj h).symm⟩

/-- the row of one's own, as a world of the sort's -/
theorem SC.ofOwn {rk : Array Int} [Inhabited (It rk)] {w : World} {base g c : Nat} {d : Array (Int × Int)} (hK : Keyed d rk.size) (h : w.ownsRow base 34 2 (.slice (some ⟨g, 0, none⟩) d.size c) d.size (cells2 d.toList)) {w0 : World} (g0 : Gr w w0) :
    SC (fun x : It rk => x.1.1) w0 g 0 (tagged hK) w0 := by
  have hg : g < w.heap.size := (h.lt g rfl).2
  have len : ∀ i, i < (tagged hK).size → i < d.toList.length := fun i hi => by rw [size_tagged] at hi; simpa using hi
  refine ⟨grownBy_refl _ _, Nat.lt_of_lt_of_le hg g0.below.size, fun i hi => ?_, fun i hi => ?_, fun i hi => ?_, fun i hi => ?_⟩
  · have hi' := len i hi
    rw [Nat.zero_add]
    refine g0.kept ?_
    rw [h.cellAt _ (by simp at hi'; omega), cells2_get0 _ _ hi', get_tagged hK i (by simpa using hi')]
    simp only [getElem!_pos d i (by simpa using hi')]
    rfl
  · have hi' := len i hi
    rw [Nat.zero_add]
    refine g0.kept ?_
    rw [h.cellAt _ (by simp at hi'; omega), cells2_get1 _ _ hi', get_tagged hK i (by simpa using hi')]
    simp only [getElem!_pos d i (by simpa using hi')]
    rfl
  · rw [g0.frozen (by exact hg)]; exact h.frozenAt _
  · rw [g0.frozen (by exact hg)]; exact h.frozenAt _

/-- the ranks are left alone by what is done in another block -/
theorem ranks_kept {w w0 : World} {q : Option Addr} {rk : Array Int} (h : Ints w q rk) {g : Nat} (hb : w.heap.size ≤ g) {cap' : Nat} {B : Nat} (hw : Below w.heap.size w w0) (hB : B ≠ g) (hBl : B < w0.heap.size) (hc : w0.cell? ⟨B, 0, none⟩ = some (.slice q rk.size cap')) :
    ∀ W, w0.grownBy W (some g) → Ranks W B rk := by
  intro W hW
  have keep : ∀ k o v, k < w0.heap.size → k ≠ g → w0.cell? ⟨k, o, none⟩ = some v → W.cell? ⟨k, o, none⟩ = some v := fun k o v hk hne hv => by
    rw [← hv]
    exact World.cell?_of_block (w := w0) (hW.block k hk (fun e => hne (Option.some.inj e)))
  refine ⟨q, cap', keep _ _ _ hBl hB hc, ?_⟩
  rcases h with h | ⟨b, off, rfl, hC⟩
  · exact Or.inl h
  · refine Or.inr ⟨b, off, rfl, fun i hi => ?_⟩
    have hbw : b < w.heap.size := World.block_lt_of_cell? w _ (hC i hi)
    exact keep _ _ _ (Nat.lt_of_lt_of_le hbw hw.size) (by omega) ((hw.cell (p := ⟨b, off + i, none⟩) hbw).trans (hC i hi))

theorem SC.items {rk : Array Int} [Inhabited (It rk)] {w0 W : World} {blk off : Nat} {d : Array (It rk)} (h : SC (fun x : It rk => x.1.1) w0 blk off d W) {l : List (Int × Int)} (e : d.toList.map (fun x => x.1.1) = l) : Items W (some ⟨blk, off, none⟩) l.toArray := by
  subst e
  refine Or.inr ⟨blk, off, rfl, fun i hi => ?_⟩
  have hi' : i < d.size := by simpa using hi
  have e2 : (d.toList.map (fun x : It rk => x.1.1)).toArray[i]! = d[i]!.1.1 := by
    rw [getElem!_pos _ i hi, getElem!_pos d i hi']
    simp
  rw [e2]
  exact ⟨h.c0 i hi', h.c1 i hi'⟩

/-- what the items in a row of one's own are, as the cells behind one another -/
theorem items_cells {w : World} {b off : Nat} {d : Array (Int × Int)} (hC : ∀ i, i < d.size → w.cell? ⟨b, off + i * 2, none⟩ = some (.int .i64 d[i]!.1) ∧ w.cell? ⟨b, off + i * 2 + 1, none⟩ = some (.int .i64 d[i]!.2)) :
    ∀ j u, (cells2 d.toList)[j]? = some u → w.cell? ((⟨b, off, none⟩ : Addr).add j) = some u := by
  intro j u hj
  obtain ⟨i, hi, ⟨rfl, rfl⟩ | ⟨rfl, rfl⟩⟩ := cells2_cases hj
  · have := (hC i (by simpa using hi)).1
    rw [getElem!_pos d i (by simpa using hi)] at this
    rw [addr_add, Array.getElem_toList]
    exact this
  · have := (hC i (by simpa using hi)).2
    rw [getElem!_pos d i (by simpa using hi)] at this
    rw [addr_add, Array.getElem_toList, show off + (i * 2 + 1) = off + i * 2 + 1 by omega]
    exact this

section
variable {rk : Array Int}
set_option maxHeartbeats 1000000 in
/-- an empty row -/
theorem insertion0_any (p : Option Addr) (cap : Nat) (v : Value) (w : World) : Calls Try.prog 51 #[.slice p 0 cap, .int .i64 0, .int .i64 0, v] w fun e w' => e = .returned (.tuple #[]) ∧ w' = w := by
  go_enter Try.func51, Try.ntmps51
  go_wp2
  go_loopg [8] 0 (fun g1 vi wr => vi = .int .i64 1 ∧ wr = w)
  case atStart => exact ⟨rfl, rfl⟩
  case round =>
    obtain ⟨rfl, rfl⟩ := hrel
    go_wp2
    go_end0
    exact ⟨rfl, rfl⟩
set_option maxHeartbeats 1000000 in
theorem stable0_any (p : Option Addr) (cap : Nat) (v : Value) (w : World) : Calls Try.prog 46 #[.slice p 0 cap, .int .i64 0, v] w fun e w' => e = .returned (.tuple #[]) ∧ w' = w := by
  have h51 := fun W => insertion0_any p cap v W
  go_enter Try.func46, Try.ntmps46
  go_wp2
  go_loopg [7, 8] 0 (fun g1 va vb wr => va = .int .i64 0 ∧ vb = .int .i64 20 ∧ wr = w)
  case atStart => exact ⟨rfl, rfl, rfl⟩
  case round =>
    obtain ⟨rfl, rfl, rfl⟩ := hrel
    go_wp2_with fail
    refine (h51 _).mono ?_
    rintro e w2 ⟨rfl, rfl⟩
    go_wp2
    go_loopg [6] 0 (fun g1 v6 wr => v6 = .int .i64 20 ∧ wr = w2)
    case atStart => exact ⟨rfl, rfl⟩
    case round =>
      obtain ⟨rfl, rfl⟩ := hrel
      go_wp2
      go_end0
      exact ⟨rfl, rfl⟩
set_option maxHeartbeats 1000000 in
theorem sortStable0_any (p : Option Addr) (cap : Nat) (v : Value) (w : World) : Calls Try.prog 40 #[.slice p 0 cap, v] w fun e w' => e = .returned (.tuple #[]) ∧ w' = w := by
  have h46 := fun W => stable0_any p cap v W
  go_enter Try.func40, Try.ntmps40
  go_wp2_with fail
  refine (h46 _).mono ?_
  rintro e w2 ⟨rfl, rfl⟩
  go_wp2
  go_end0
  exact ⟨rfl, rfl⟩

set_option maxHeartbeats 2000000 in
theorem implStable_any (p q : Option Addr) (cap cap' : Nat) (d : Array (Int × Int)) (w : World) (hI : Items w p d) (hR : Ints w q rk) (hK : Keyed d rk.size) (hsz : d.size ≤ 2147483647) :
    Calls Try.prog 26 #[.slice p d.size cap, .slice q rk.size cap'] w fun e w' => ∃ r c, e = .returned (.slice r d.size c) ∧ Items w' r (insAll (gtR rk) d.toList).toArray ∧ Below w.heap.size w w' := by
  obtain ⟨i0, hi, hz0, hz1, hz2⟩ := info_parts info34
  have hown0 : (w.alloc (.cells #[] 34)).ownsRow w.heap.size 34 2 (.slice (some ⟨w.heap.size, 0, none⟩) 0 0) 0 [] := World.ownsRow_lit w #[] 0 (Nat.le_refl _) (Nat.zero_le _) rfl
  have hB0 : Below w.heap.size w (w.alloc (.cells #[] 34)) := (Below.refl _ _).alloc (Nat.le_refl _) _
  by_cases h0 : d.size = 0
  · have hnil : ∀ (W : World) (r : Option Addr), Items W r (insAll (gtR rk) d.toList).toArray := fun W r => Or.inl (by rw [List.size_toArray, length_insAll, Array.length_toList, h0])
    rw [h0]
    cases p with
    | none =>
      go_enter Try.func26, Try.ntmps26
      go_wp2_with (at_builtin; refine wpList_append_nothing rfl _ _ 22 rfl w.heap.size 34 i0 2 cap Try.underlying22 hi _ _ _ rfl hown0 rfl ?_)
      go_wp2_with fail
      refine (order_any _ _ _ _).mono ?_
      rintro e w2 ⟨rfl, rfl⟩
      go_wp2_with fail
      refine (sortStable0_any _ _ _ _).mono ?_
      rintro e w3 ⟨rfl, rfl⟩
      go_wp2
      go_ret
      exact ⟨_, _, rfl, hnil _ _, hB0.alloc hB0.size _⟩
    | some ad =>
      go_enter Try.func26, Try.ntmps26
      go_wp2_with (at_builtin; refine wpList_append_own _ rfl _ _ 22 rfl w.heap.size 34 i0 (.agg #[.int .i64 0, .int .i64 0]) 2 16 Try.underlying22 hi hz0 hz1 hz2 rfl (by decide) _ _ _ rfl hown0 ad 0 cap [] rfl rfl ?c1 ?c2 ?c3 ?c4 ?c5 ?_)
      case c1 => intro j u hu; simp at hu
      case c2 => intro u hu; cases hu
      case c3 => exact Nat.zero_le _
      case c4 => exact Nat.zero_le _
      case c5 => exact hB0.size
      intro v' w1 hown' hgrow _
      have hB1 : Below w.heap.size w w1 := hB0.grown hgrow hB0.size (fun k hk => (hown0.lt k hk).1)
      obtain ⟨r, c, rfl⟩ := ownsRow_form hown'
      clear hown0 hown' hgrow
      go_wp2_with fail
      refine (order_any _ _ _ _).mono ?_
      rintro e w2 ⟨rfl, rfl⟩
      go_wp2_with fail
      refine (sortStable0_any _ _ _ _).mono ?_
      rintro e w3 ⟨rfl, rfl⟩
      go_wp2
      go_ret
      exact ⟨_, _, rfl, hnil _ _, hB1.alloc hB1.size _⟩
  · obtain ⟨b, off, rfl, hC⟩ := hI.at (i := 0) (by omega)
    have hcells := items_cells hC
    have hbw : b < w.heap.size := World.block_lt_of_cell? w _ (hC 0 (by omega)).1
    have hnews : ∀ j u, (cells2 d.toList)[j]? = some u → (w.alloc (.cells #[] 34)).cell? ((⟨b, off, none⟩ : Addr).add j) = some u := fun j u hu => by
      have := hcells j u hu
      rw [addr_add] at this ⊢
      exact ((Gr.refl w).alloc _).kept this
    have hlen : (cells2 d.toList).length = d.size * 2 := by rw [length_cells2, Array.length_toList]
    have hone := cells2_one d.toList
    have HN := hidden hnews
    clear hnews hcells hC
    have : Inhabited (It rk) := ⟨⟨(d[0]!, 0), hK 0 (by omega)⟩⟩
    have AS := asc_tagged hK
    have hown1 := fun (v' : Value) (w1 : World) (h : w1.ownsRow w.heap.size 34 2 v' d.size (cells2 d.toList)) (hB1 : Below w.heap.size w w1) => show ∃ g c, v' = .slice (some ⟨g, 0, none⟩) d.size c ∧ w.heap.size ≤ g ∧ ∀ w0, w0 = w1.alloc (.cells #[.slice q rk.size cap'] 23) → SC (fun x : It rk => x.1.1) w0 g 0 (tagged hK) w0 ∧ (∀ W, w0.grownBy W (some g) → Ranks W w1.heap.size rk) from by
      rcases h.2 with ⟨_, h'⟩ | ⟨g, c, cur, rfl, hg, _⟩
      · omega
      · refine ⟨g, c, rfl, hg, fun w0 hw0 => ?_⟩
        subst hw0
        refine ⟨SC.ofOwn hK h ((Gr.refl _).alloc _), ranks_kept hR hg (cap' := cap') (hB1.alloc hB1.size _) ?_ (by simp) (by simp)⟩
        have := (h.lt g rfl).2
        omega
    have HO := hidden hown1
    clear hown1
    generalize hL : cells2 d.toList = L at *
    go_enter Try.func26, Try.ntmps26
    go_wp2_with (at_builtin; refine wpList_append_own _ rfl _ _ 22 rfl w.heap.size 34 i0 (.agg #[.int .i64 0, .int .i64 0]) 2 16 Try.underlying22 hi hz0 hz1 hz2 rfl (by decide) _ _ _ rfl hown0 ⟨b, off, none⟩ d.size cap L rfl hlen HN.out hone ?c3 ?c4 ?c5 ?_)
    case c3 => unfold maxLen; omega
    case c4 => omega
    case c5 => exact hB0.size
    intro v' w1 hown' hgrow _
    have hB1 : Below w.heap.size w w1 := hB0.grown hgrow hB0.size (fun k hk => (hown0.lt k hk).1)
    obtain ⟨g, c, rfl, hg, hS⟩ := HO.out v' w1 hown' hB1
    clear hown0 hown' hgrow HO hB0
    obtain ⟨S, R⟩ := hS _ rfl
    have hc := sortStableC w1.heap.size g 0 c (w1.alloc (.cells #[.slice q rk.size cap'] 23)) R (ltT rk) (swo_ltT rk) (tagged hK) _ S (by rw [size_tagged]; omega) (fun i j hij hj => by
      rw [size_tagged] at hj
      rw [get_tagged hK i (by omega), get_tagged hK j hj]
      exact ltR_of_tag hij)
    rw [size_tagged] at hc
    have HC := hidden hc
    clear hc S R hS
    go_wp2_with fail
    refine (order_any _ _ _ _).mono ?_
    rintro e w2 ⟨rfl, rfl⟩
    go_wp2_with fail
    refine HC.out.mono ?_
    rintro e w3 ⟨rfl, d', hp, ho, S3⟩
    have HP := hidden hp
    have HO := hidden ho
    clear hp ho HC
    go_wp2
    go_ret
    refine ⟨_, _, rfl, S3.items (tags_law hK (by rw [size_tagged]; exact HP.out) (by rw [size_tagged]; exact HO.out)), ?_⟩
    exact (hB1.alloc hB1.size _).grown S3.gb (by have := hB1.size; simp; omega) (fun k hk => by cases hk; exact hg)
end

end Go.Proofs.Ytfkhfkbkjiekkaa
