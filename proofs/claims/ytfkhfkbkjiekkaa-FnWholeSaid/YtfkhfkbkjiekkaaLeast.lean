/-
  'MinFunc', 'MaxFunc' and the reference 'First': the first of the least and of the greatest items.
-/
import Derived.Test.YtfkhfkbkjiekkaaLawInOrder
namespace Go.Proofs.Ytfkhfkbkjiekkaa
open Go.RowKit Go.Sort

theorem Gr.frozen {a b : World} (h : Gr a b) {p : Addr} (hp : p.block < a.heap.size) : b.frozen? p = a.frozen? p := by
  obtain ⟨q, os, rfl⟩ := h
  rw [frozen?_grow _ _ _ (by exact hp)]
  rfl
theorem Gr.setNew {a b : World} (h : Gr a b) (c o : Nat) (v : Value) (hc : a.heap.size ≤ c) : Gr a (b.setCell ⟨c, o, none⟩ v) := by
  obtain ⟨q, os, rfl⟩ := h
  exact ⟨q, _, by rw [setCell_eq, mapBlock_grow_new _ _ _ _ (by exact hc)]⟩

/-- A variable of the call's own that holds an item. -/
def Box (w : World) (a : Nat) (x : Int × Int) : Prop :=
  w.cell? ⟨a, 0, none⟩ = some (.int .i64 x.1) ∧ w.cell? ⟨a, 1, none⟩ = some (.int .i64 x.2) ∧ w.frozen? ⟨a, 0, none⟩ = false ∧ w.frozen? ⟨a, 1, none⟩ = false

theorem Box.lt {w : World} {a : Nat} {x : Int × Int} (h : Box w a x) : a < w.heap.size := World.block_lt_of_cell? w _ h.1
theorem Box.gr {w w' : World} {a : Nat} {x : Int × Int} (h : Box w a x) (g : Gr w w') : Box w' a x :=
  ⟨g.kept h.1, g.kept h.2.1, by rw [g.frozen h.lt]; exact h.2.2.1, by rw [g.frozen h.lt]; exact h.2.2.2⟩
theorem Box.set {w : World} {a : Nat} {x : Int × Int} (h : Box w a x) (y : Int × Int) : Box ((w.setCell ⟨a, 0, none⟩ (.int .i64 y.1)).setCell ⟨a, 1, none⟩ (.int .i64 y.2)) a y := by
  have e : (w.setCell ⟨a, 0, none⟩ (.int .i64 y.1)).cell? ⟨a, 1, none⟩ = some (.int .i64 x.2) := by
    rw [World.cell?_setCell_other _ _ _ _ (by simp)]; exact h.2.1
  refine ⟨?_, World.cell?_setCell_same _ _ _ e, ?_, ?_⟩
  · rw [World.cell?_setCell_other _ _ _ _ (by simp)]
    exact World.cell?_setCell_same _ _ _ h.1
  · rw [World.frozen?_setCell, World.frozen?_setCell]; exact h.2.2.1
  · rw [World.frozen?_setCell, World.frozen?_setCell]; exact h.2.2.2
theorem Box.other {w : World} {a b : Nat} {x : Int × Int} (h : Box w a x) (hne : b ≠ a) (o : Nat) (v : Value) : Box (w.setCell ⟨b, o, none⟩ v) a x := by
  refine ⟨?_, ?_, ?_, ?_⟩
  · rw [World.cell?_setCell_other _ _ _ _ (fun e => hne (congrArg Addr.block e))]; exact h.1
  · rw [World.cell?_setCell_other _ _ _ _ (fun e => hne (congrArg Addr.block e))]; exact h.2.1
  · rw [World.frozen?_setCell]; exact h.2.2.1
  · rw [World.frozen?_setCell]; exact h.2.2.2
theorem Box.new (w : World) (x : Int × Int) : Box (w.alloc (.cells #[.int .i64 x.1, .int .i64 x.2] 34)) w.heap.size x := by
  refine ⟨?_, ?_, ?_, ?_⟩ <;> simp

/-- the first of the best ones of the first k items -/
def bestOf (rk : Array Int) (better : Int → Int → Bool) (d : Array (Int × Int)) : Nat → Int × Int
  | 0 => d[0]!
  | k + 1 => if better (rankOf rk d[k]!) (rankOf rk (bestOf rk better d k)) then d[k]! else bestOf rk better d k

def lower (a b : Int) : Bool := decide (a < b)
def higher (a b : Int) : Bool := decide (b < a)

theorem bestOf_mem (rk : Array Int) (better : Int → Int → Bool) (d : Array (Int × Int)) : ∀ k, k ≤ d.size → 0 < d.size → ∃ i, i < d.size ∧ bestOf rk better d k = d[i]!
  | 0, _, h0 => ⟨0, h0, rfl⟩
  | k + 1, hk, h0 => by
    rw [bestOf]
    split
    · exact ⟨k, by omega, rfl⟩
    · exact bestOf_mem rk better d k (by omega) h0

set_option maxHeartbeats 2000000 in
theorem minFunc_any (p : Option Addr) (cap B : Nat) (d : Array (Int × Int)) (rk : Array Int) (w : World) (hI : Items w p d) (hR : Ranks w B rk) (hK : Keyed d rk.size) (h0 : 0 < d.size) (hsz : d.size < 4611686018427387904) :
    Calls Try.prog 38 #[.slice p d.size cap, .func (.func 43) #[] #[.pointer (some ⟨B, 0, none⟩)]] w fun e w' =>
      e = .returned (.agg #[.int .i64 (bestOf rk lower d d.size).1, .int .i64 (bestOf rk lower d d.size).2]) ∧ Gr w w' := by
  have mixed : Try.prog.follows .mixedOrders = true := by kernel_rfl
  obtain ⟨b, off, rfl, hC⟩ := hI.at (i := 0) h0
  have hbw : b < w.heap.size := World.block_lt_of_cell? w _ (hC 0 h0).1
  have z1 : w.cell? ⟨b, off, none⟩ = some (.int .i64 d[0]!.1) := by simpa using (hC 0 h0).1
  have z2 : w.cell? ⟨b, off + 1, none⟩ = some (.int .i64 d[0]!.2) := by simpa using (hC 0 h0).2
  have HC := hidden hC
  clear hC
  obtain ⟨x0, hx0⟩ : ∃ x, d[0]! = x := ⟨_, rfl⟩
  rw [hx0] at z1 z2
  have hb1 : bestOf rk lower d 1 = x0 := by
    rw [bestOf, bestOf, hx0]
    split <;> rfl
  have HX0 := hidden hb1
  clear hx0 hb1
  have i0 : (0 : Int) < (d.size : Int) := by omega
  have i1 : ¬ ((d.size : Int) < 1) := by omega
  go_enter Try.func38, Try.ntmps38
  go_wp2
  go_loopg [6] d.size (fun g vi wr => ∃ i : Nat, vi = .int .i64 i ∧ 1 ≤ i ∧ i ≤ d.size ∧ d.size - i ≤ g ∧ Gr w wr ∧ Box wr w.heap.size (0, 0) ∧ Box wr (w.heap.size + 1) (bestOf rk lower d i))
  case atStart =>
    refine ⟨1, rfl, Nat.le_refl _, by omega, by omega, ((Gr.refl _).alloc _).alloc _, ?_, ?_⟩
    · exact (Box.new w (0, 0)).gr ((Gr.refl _).alloc _)
    · rw [HX0.out]
      have := Box.new (w.alloc (.cells #[.int .i64 0, .int .i64 0] 34)) x0
      rwa [World.size_alloc] at this
  case round =>
    obtain ⟨i, rfl, hi1, hi2, hg, hG, hB0, hB1⟩ := hrel
    by_cases hlt : i < d.size
    · have k1 := hK i hlt
      obtain ⟨j, hj, hbj⟩ := bestOf_mem rk lower d i (by omega) h0
      have k2 := hK j hj
      rw [← hbj] at k2
      have hstep : bestOf rk lower d (i + 1) = if lower (rankOf rk d[i]!) (rankOf rk (bestOf rk lower d i)) then d[i]! else bestOf rk lower d i := rfl
      have l1 := fun n os => (hG.grow n os).kept (HC.out i hlt).1
      have l2 := fun n os => (hG.grow n os).kept (HC.out i hlt).2
      have l3 := fun n os => (hB1.gr ((Gr.refl wr).grow n os)).1
      have l4 := fun n os => (hB1.gr ((Gr.refl wr).grow n os)).2.1
      have hbg := fun n os => hB1.gr ((Gr.refl wr).grow n os)
      have HS := hidden hstep
      clear hstep hbj
      generalize d[i]! = x at l1 l2 k1 HS
      generalize bestOf rk lower d i = y at l3 l4 k2 HS hB1 hbg
      have HBG := hidden hbg
      clear hbg
      have hc := fun n os => closure_any x y B rk (grow (wr.drewN n) os) (hR.gr (hG.grow n os)) k1.1 k1.2 k2.1 k2.2
      have p1 : (i : Int) < (d.size : Int) := by omega
      by_cases hv : rankOf rk x < rankOf rk y
      · have hn := (cmpI_neg (rankOf rk x) (rankOf rk y)).2 hv
        have hl : lower (rankOf rk x) (rankOf rk y) = true := decide_eq_true hv
        have HL := hidden hl
        clear hl
        go_wp2_with fail
        go_quiet_grown (first | (go_at_call 43; refine Calls.grown_of (hc _ _)))
        obtain ⟨b1, b2, b3, b4⟩ := HBG.out nq osq
        have HB := hidden (HBG.out nq osq)
        have HB0 := hidden (hB0.gr ((Gr.refl wr).grow nq osq))
        have hG2 := hG.grow nq osq
        have l5 := l1 nq osq
        have l6 := l2 nq osq
        have hne : b ≠ w.heap.size + 1 := by omega
        clear l1 l2 l3 l4 hc hB0 hB1
        generalize grow (wr.drewN nq) osq = w2 at b1 b2 b3 b4 HB HB0 hG2 l5 l6 ⊢
        go_wp2
        go_roundg (d.size - (i + 1))
        case measure => omega
        case rel =>
          refine ⟨i + 1, by go_num, by omega, by omega, by omega, (hG2.setNew _ _ _ (by omega)).setNew _ _ _ (by omega), (HB0.out.other (by omega) _ _).other (by omega) _ _, ?_⟩
          rw [HS.out, HL.out, if_pos rfl]
          exact HB.out.set x
      · have hn : ¬ cmpI (rankOf rk x) (rankOf rk y) < 0 := fun e => hv ((cmpI_neg _ _).1 e)
        have hl : lower (rankOf rk x) (rankOf rk y) = false := decide_eq_false hv
        have HL := hidden hl
        clear hl
        go_wp2_with fail
        go_quiet_grown (first | (go_at_call 43; refine Calls.grown_of (hc _ _)))
        have HB := hidden (HBG.out nq osq)
        have HB0 := hidden (hB0.gr ((Gr.refl wr).grow nq osq))
        have hG2 := hG.grow nq osq
        clear l1 l2 l3 l4 hc hB0 hB1
        generalize grow (wr.drewN nq) osq = w2 at HB HB0 hG2 ⊢
        go_wp2
        go_roundg (d.size - (i + 1))
        case measure => omega
        case rel =>
          refine ⟨i + 1, by go_num, by omega, by omega, by omega, hG2, HB0.out, ?_⟩
          rw [HS.out, HL.out, if_neg (by simp)]
          exact HB.out
    · obtain rfl : i = d.size := by omega
      obtain ⟨y, hy⟩ : ∃ y, bestOf rk lower d d.size = y := ⟨_, rfl⟩
      rw [hy] at hB1
      have HY := hidden hy
      have hfin := hB0.set y
      obtain ⟨f1, f2, _, _⟩ := hfin
      have F1 := hidden f1
      have F2 := hidden f2
      clear hy f1 f2
      obtain ⟨b1, b2, b3, b4⟩ := hB1
      obtain ⟨a1, a2, a3, a4⟩ := hB0
      go_wp2
      have f1 := F1.out
      have f2 := F2.out
      refine bodyPost_ret (v := .agg #[.int .i64 y.1, .int .i64 y.2]) (by simp [results, Try.results38, go_sem, f1, f2]) rfl ⟨by rw [HY.out], (hG.setNew _ _ _ (Nat.le_refl _)).setNew _ _ _ (Nat.le_refl _)⟩

set_option maxHeartbeats 2000000 in
theorem maxFunc_any (p : Option Addr) (cap B : Nat) (d : Array (Int × Int)) (rk : Array Int) (w : World) (hI : Items w p d) (hR : Ranks w B rk) (hK : Keyed d rk.size) (h0 : 0 < d.size) (hsz : d.size < 4611686018427387904) :
    Calls Try.prog 39 #[.slice p d.size cap, .func (.func 43) #[] #[.pointer (some ⟨B, 0, none⟩)]] w fun e w' =>
      e = .returned (.agg #[.int .i64 (bestOf rk higher d d.size).1, .int .i64 (bestOf rk higher d d.size).2]) ∧ Gr w w' := by
  have mixed : Try.prog.follows .mixedOrders = true := by kernel_rfl
  obtain ⟨b, off, rfl, hC⟩ := hI.at (i := 0) h0
  have hbw : b < w.heap.size := World.block_lt_of_cell? w _ (hC 0 h0).1
  have z1 : w.cell? ⟨b, off, none⟩ = some (.int .i64 d[0]!.1) := by simpa using (hC 0 h0).1
  have z2 : w.cell? ⟨b, off + 1, none⟩ = some (.int .i64 d[0]!.2) := by simpa using (hC 0 h0).2
  have HC := hidden hC
  clear hC
  obtain ⟨x0, hx0⟩ : ∃ x, d[0]! = x := ⟨_, rfl⟩
  rw [hx0] at z1 z2
  have hb1 : bestOf rk higher d 1 = x0 := by
    rw [bestOf, bestOf, hx0]
    split <;> rfl
  have HX0 := hidden hb1
  clear hx0 hb1
  have i0 : (0 : Int) < (d.size : Int) := by omega
  have i1 : ¬ ((d.size : Int) < 1) := by omega
  go_enter Try.func39, Try.ntmps39
  go_wp2
  go_loopg [6] d.size (fun g vi wr => ∃ i : Nat, vi = .int .i64 i ∧ 1 ≤ i ∧ i ≤ d.size ∧ d.size - i ≤ g ∧ Gr w wr ∧ Box wr w.heap.size (0, 0) ∧ Box wr (w.heap.size + 1) (bestOf rk higher d i))
  case atStart =>
    refine ⟨1, rfl, Nat.le_refl _, by omega, by omega, ((Gr.refl _).alloc _).alloc _, ?_, ?_⟩
    · exact (Box.new w (0, 0)).gr ((Gr.refl _).alloc _)
    · rw [HX0.out]
      have := Box.new (w.alloc (.cells #[.int .i64 0, .int .i64 0] 34)) x0
      rwa [World.size_alloc] at this
  case round =>
    obtain ⟨i, rfl, hi1, hi2, hg, hG, hB0, hB1⟩ := hrel
    by_cases hlt : i < d.size
    · have k1 := hK i hlt
      obtain ⟨j, hj, hbj⟩ := bestOf_mem rk higher d i (by omega) h0
      have k2 := hK j hj
      rw [← hbj] at k2
      have hstep : bestOf rk higher d (i + 1) = if higher (rankOf rk d[i]!) (rankOf rk (bestOf rk higher d i)) then d[i]! else bestOf rk higher d i := rfl
      have l1 := fun n os => (hG.grow n os).kept (HC.out i hlt).1
      have l2 := fun n os => (hG.grow n os).kept (HC.out i hlt).2
      have l3 := fun n os => (hB1.gr ((Gr.refl wr).grow n os)).1
      have l4 := fun n os => (hB1.gr ((Gr.refl wr).grow n os)).2.1
      have hbg := fun n os => hB1.gr ((Gr.refl wr).grow n os)
      have HS := hidden hstep
      clear hstep hbj
      generalize d[i]! = x at l1 l2 k1 HS
      generalize bestOf rk higher d i = y at l3 l4 k2 HS hB1 hbg
      have HBG := hidden hbg
      clear hbg
      have hc := fun n os => closure_any x y B rk (grow (wr.drewN n) os) (hR.gr (hG.grow n os)) k1.1 k1.2 k2.1 k2.2
      have p1 : (i : Int) < (d.size : Int) := by omega
      by_cases hv : rankOf rk y < rankOf rk x
      · have hn := (cmpI_pos (rankOf rk x) (rankOf rk y)).2 hv
        have hl : higher (rankOf rk x) (rankOf rk y) = true := decide_eq_true hv
        have HL := hidden hl
        clear hl
        go_wp2_with fail
        go_quiet_grown (first | (go_at_call 43; refine Calls.grown_of (hc _ _)))
        obtain ⟨b1, b2, b3, b4⟩ := HBG.out nq osq
        have HB := hidden (HBG.out nq osq)
        have HB0 := hidden (hB0.gr ((Gr.refl wr).grow nq osq))
        have hG2 := hG.grow nq osq
        have l5 := l1 nq osq
        have l6 := l2 nq osq
        have hne : b ≠ w.heap.size + 1 := by omega
        clear l1 l2 l3 l4 hc hB0 hB1
        generalize grow (wr.drewN nq) osq = w2 at b1 b2 b3 b4 HB HB0 hG2 l5 l6 ⊢
        go_wp2
        go_roundg (d.size - (i + 1))
        case measure => omega
        case rel =>
          refine ⟨i + 1, by go_num, by omega, by omega, by omega, (hG2.setNew _ _ _ (by omega)).setNew _ _ _ (by omega), (HB0.out.other (by omega) _ _).other (by omega) _ _, ?_⟩
          rw [HS.out, HL.out, if_pos rfl]
          exact HB.out.set x
      · have hn : ¬ 0 < cmpI (rankOf rk x) (rankOf rk y) := fun e => hv ((cmpI_pos _ _).1 e)
        have hl : higher (rankOf rk x) (rankOf rk y) = false := decide_eq_false hv
        have HL := hidden hl
        clear hl
        go_wp2_with fail
        go_quiet_grown (first | (go_at_call 43; refine Calls.grown_of (hc _ _)))
        have HB := hidden (HBG.out nq osq)
        have HB0 := hidden (hB0.gr ((Gr.refl wr).grow nq osq))
        have hG2 := hG.grow nq osq
        clear l1 l2 l3 l4 hc hB0 hB1
        generalize grow (wr.drewN nq) osq = w2 at HB HB0 hG2 ⊢
        go_wp2
        go_roundg (d.size - (i + 1))
        case measure => omega
        case rel =>
          refine ⟨i + 1, by go_num, by omega, by omega, by omega, hG2, HB0.out, ?_⟩
          rw [HS.out, HL.out, if_neg (by simp)]
          exact HB.out
    · obtain rfl : i = d.size := by omega
      obtain ⟨y, hy⟩ : ∃ y, bestOf rk higher d d.size = y := ⟨_, rfl⟩
      rw [hy] at hB1
      have HY := hidden hy
      have hfin := hB0.set y
      obtain ⟨f1, f2, _, _⟩ := hfin
      have F1 := hidden f1
      have F2 := hidden f2
      clear hy f1 f2
      obtain ⟨b1, b2, b3, b4⟩ := hB1
      obtain ⟨a1, a2, a3, a4⟩ := hB0
      go_wp2
      have f1 := F1.out
      have f2 := F2.out
      refine bodyPost_ret (v := .agg #[.int .i64 y.1, .int .i64 y.2]) (by simp [results, Try.results39, go_sem, f1, f2]) rfl ⟨by rw [HY.out], (hG.setNew _ _ _ (Nat.le_refl _)).setNew _ _ _ (Nat.le_refl _)⟩

end Go.Proofs.Ytfkhfkbkjiekkaa
