/-
  The world of a sort of items: the row of items in its block, what was there else as it was, and new blocks: kept by draws, new blocks, stores into these, and by the stores of an exchange.
-/
import Derived.Test.YtfkhfkbkjiekkaaLeast
import Derived.Laws.AppendOwn
import Derived.Sort.Defs
namespace Go.Proofs.Ytfkhfkbkjiekkaa
open Go.RowKit Go.Sort

theorem grownBy_refl (w : World) (r : Option Nat) : w.grownBy w r := ⟨rfl, rfl, rfl, Nat.le_refl _, fun _ _ _ => rfl⟩
theorem grownBy_trans {a b c : World} {r : Option Nat} (h : a.grownBy b r) (k : b.grownBy c r) : a.grownBy c r :=
  ⟨k.os.trans h.os, k.tape.trans h.tape, k.output.trans h.output, Nat.le_trans h.size k.size, fun i hi hr => (k.block i (Nat.lt_of_lt_of_le hi h.size) hr).trans (h.block i hi hr)⟩
theorem grownBy_gr {a b : World} (h : Gr a b) (r : Option Nat) : a.grownBy b r := by
  have := h.below
  exact ⟨this.os, this.tape, this.output, this.size, fun k hk _ => this.block k hk⟩
theorem grownBy_set (w : World) (b o : Nat) (v : Value) : w.grownBy (w.setCell ⟨b, o, none⟩ v) (some b) :=
  ⟨rfl, rfl, rfl, by simp, fun k _ hk => Below.heap_setCell _ _ _ _ (fun e => hk (by rw [e]))⟩
theorem grownBy_setNew {a b : World} {r : Option Nat} (h : a.grownBy b r) (c o : Nat) (v : Value) (hc : a.heap.size ≤ c) : a.grownBy (b.setCell ⟨c, o, none⟩ v) r :=
  ⟨h.os, h.tape, h.output, by simpa using h.size, fun k hk hr => (Below.heap_setCell _ _ _ _ (fun e => absurd hk (by simp only at e; omega))).trans (h.block k hk hr)⟩

section
variable {α : Type} [Inhabited α] {it : α → Int × Int} {w0 W : World} {blk off : Nat} {d : Array α}

/-- W is a world of the sort's: the row at ⟨blk, off⟩ holds d; of what was there at w0 nothing else has turned. -/
structure SC (it : α → Int × Int) (w0 : World) (blk off : Nat) (d : Array α) (W : World) : Prop where
  gb : w0.grownBy W (some blk)
  lt : blk < w0.heap.size
  c0 : ∀ i, i < d.size → W.cell? ⟨blk, off + i * 2, none⟩ = some (.int .i64 (it d[i]!).1)
  c1 : ∀ i, i < d.size → W.cell? ⟨blk, off + i * 2 + 1, none⟩ = some (.int .i64 (it d[i]!).2)
  f0 : ∀ i, i < d.size → W.frozen? ⟨blk, off + i * 2, none⟩ = false
  f1 : ∀ i, i < d.size → W.frozen? ⟨blk, off + i * 2 + 1, none⟩ = false

theorem SC.ltW (h : SC it w0 blk off d W) : blk < W.heap.size := Nat.lt_of_lt_of_le h.lt h.gb.size

theorem SC.gr (h : SC it w0 blk off d W) {W' : World} (g : Gr W W') : SC it w0 blk off d W' where
  gb := grownBy_trans h.gb (grownBy_gr g _)
  lt := h.lt
  c0 i hi := g.kept (h.c0 i hi)
  c1 i hi := g.kept (h.c1 i hi)
  f0 i hi := by rw [g.frozen (by exact h.ltW)]; exact h.f0 i hi
  f1 i hi := by rw [g.frozen (by exact h.ltW)]; exact h.f1 i hi
theorem SC.grow (h : SC it w0 blk off d W) (n : Nat) (os : Array Obj) : SC it w0 blk off d (Go.Sort.grow (W.drewN n) os) := h.gr ((Gr.refl _).grow n os)
theorem SC.drewN (h : SC it w0 blk off d W) (n : Nat) : SC it w0 blk off d (W.drewN n) := h.gr ((Gr.refl _).drewN n)
theorem SC.drew (h : SC it w0 blk off d W) : SC it w0 blk off d W.drew := h.gr (Gr.refl _).drew
theorem SC.alloc (h : SC it w0 blk off d W) (o : Obj) : SC it w0 blk off d (W.alloc o) := h.gr ((Gr.refl _).alloc o)
theorem SC.setNew (h : SC it w0 blk off d W) (c o : Nat) (v : Value) (hc : w0.heap.size ≤ c) : SC it w0 blk off d (W.setCell ⟨c, o, none⟩ v) := by
  have hne : c ≠ blk := by have := h.lt; omega
  refine ⟨grownBy_setNew h.gb c o v hc, h.lt, fun i hi => ?_, fun i hi => ?_, fun i hi => ?_, fun i hi => ?_⟩
  · rw [World.cell?_setCell_other _ _ _ _ (fun e => hne (congrArg Addr.block e))]; exact h.c0 i hi
  · rw [World.cell?_setCell_other _ _ _ _ (fun e => hne (congrArg Addr.block e))]; exact h.c1 i hi
  · rw [World.frozen?_setCell]; exact h.f0 i hi
  · rw [World.frozen?_setCell]; exact h.f1 i hi

theorem get_set {d : Array α} {i j : Nat} {y : α} (hi : i < d.size) : (d.setIfInBounds j y)[i]! = if j = i then y else d[i]! := by
  rw [getElem!_pos _ i (by simpa using hi), getElem!_pos d i hi, Array.getElem_setIfInBounds]

/-- one item stored -/
theorem SC.put (h : SC it w0 blk off d W) (i : Nat) (hi : i < d.size) (y : α) :
    SC it w0 blk off (d.setIfInBounds i y) ((W.setCell ⟨blk, off + i * 2, none⟩ (.int .i64 (it y).1)).setCell ⟨blk, off + i * 2 + 1, none⟩ (.int .i64 (it y).2)) := by
  have e0 : ∀ j, j < d.size → (W.setCell ⟨blk, off + i * 2, none⟩ (.int .i64 (it y).1)).cell? ⟨blk, off + j * 2, none⟩ = some (.int .i64 (if i = j then (it y).1 else (it d[j]!).1)) := fun j hj => by
    by_cases e : i = j
    · subst e; rw [if_pos rfl]; exact World.cell?_setCell_same _ _ _ (h.c0 i hi)
    · rw [if_neg e, World.cell?_setCell_other _ _ _ _ (fun q => e (by have := congrArg Addr.off q; simp only at this; omega))]; exact h.c0 j hj
  have e1 : ∀ j, j < d.size → (W.setCell ⟨blk, off + i * 2, none⟩ (.int .i64 (it y).1)).cell? ⟨blk, off + j * 2 + 1, none⟩ = some (.int .i64 (it d[j]!).2) := fun j hj => by
    rw [World.cell?_setCell_other _ _ _ _ (fun q => by have := congrArg Addr.off q; simp only at this; omega)]; exact h.c1 j hj
  refine ⟨grownBy_trans (grownBy_trans h.gb (grownBy_set _ _ _ _)) (grownBy_set _ _ _ _), h.lt, fun j hj => ?_, fun j hj => ?_, fun j hj => ?_, fun j hj => ?_⟩
  · have hj' : j < d.size := by simpa using hj
    rw [World.cell?_setCell_other _ _ _ _ (fun q => by have := congrArg Addr.off q; simp only at this; omega), e0 j hj', get_set hj']
    by_cases e : i = j <;> simp [e]
  · have hj' : j < d.size := by simpa using hj
    by_cases e : i = j
    · subst e
      rw [World.cell?_setCell_same _ _ _ (e1 i hi), get_set hj', if_pos rfl]
    · rw [World.cell?_setCell_other _ _ _ _ (fun q => e (by have := congrArg Addr.off q; simp only at this; omega)), e1 j hj', get_set hj', if_neg e]
  · rw [World.frozen?_setCell, World.frozen?_setCell]; exact h.f0 j (by simpa using hj)
  · rw [World.frozen?_setCell, World.frozen?_setCell]; exact h.f1 j (by simpa using hj)

/-- an exchange -/
theorem SC.swap (h : SC it w0 blk off d W) (i j : Nat) (hi : i < d.size) (hj : j < d.size) :
    SC it w0 blk off (swp d i j) ((((W.setCell ⟨blk, off + i * 2, none⟩ (.int .i64 (it d[j]!).1)).setCell ⟨blk, off + i * 2 + 1, none⟩ (.int .i64 (it d[j]!).2)).setCell ⟨blk, off + j * 2, none⟩ (.int .i64 (it d[i]!).1)).setCell ⟨blk, off + j * 2 + 1, none⟩ (.int .i64 (it d[i]!).2)) := by
  have h1 := h.put i hi d[j]!
  have h2 := h1.put j (by simpa using hj) d[i]!
  exact h2

/-- what the walk of an exchange wants to know: of the two items and of each world between two of the four stores -/
theorem SC.swapFacts (h : SC it w0 blk off d W) (i j : Nat) (hi : i < d.size) (hj : j < d.size) {x y : Int × Int} :
    ∃ u2 u3 u4 : Value,
      (W.setCell ⟨blk, off + i * 2, none⟩ (.int .i64 y.1)).cell? ⟨blk, off + i * 2 + 1, none⟩ = some u2 ∧
      ((W.setCell ⟨blk, off + i * 2, none⟩ (.int .i64 y.1)).setCell ⟨blk, off + i * 2 + 1, none⟩ (.int .i64 y.2)).cell? ⟨blk, off + j * 2, none⟩ = some u3 ∧
      (((W.setCell ⟨blk, off + i * 2, none⟩ (.int .i64 y.1)).setCell ⟨blk, off + i * 2 + 1, none⟩ (.int .i64 y.2)).setCell ⟨blk, off + j * 2, none⟩ (.int .i64 x.1)).cell? ⟨blk, off + j * 2 + 1, none⟩ = some u4 := by
  have s2 : ((W.setCell ⟨blk, off + i * 2, none⟩ (.int .i64 y.1)).cell? ⟨blk, off + i * 2 + 1, none⟩) = some (.int .i64 (it d[i]!).2) := by
    rw [World.cell?_setCell_other _ _ _ _ (fun q => by have := congrArg Addr.off q; simp only at this; omega)]; exact h.c1 i hi
  obtain ⟨u, hu⟩ : ∃ u, (W.setCell ⟨blk, off + i * 2, none⟩ (.int .i64 y.1)).cell? ⟨blk, off + j * 2, none⟩ = some u := by
    by_cases e : i = j
    · subst e; exact ⟨_, World.cell?_setCell_same _ _ _ (h.c0 i hi)⟩
    · exact ⟨_, (World.cell?_setCell_other _ _ _ _ (fun q => e (by have := congrArg Addr.off q; simp only at this; omega))).trans (h.c0 j hj)⟩
  obtain ⟨u', hu'⟩ : ∃ u, ((W.setCell ⟨blk, off + i * 2, none⟩ (.int .i64 y.1)).setCell ⟨blk, off + i * 2 + 1, none⟩ (.int .i64 y.2)).cell? ⟨blk, off + j * 2 + 1, none⟩ = some u := by
    by_cases e : i = j
    · subst e; exact ⟨_, World.cell?_setCell_same _ _ _ s2⟩
    · refine ⟨_, (World.cell?_setCell_other _ _ _ _ (fun q => e (by have := congrArg Addr.off q; simp only at this; omega))).trans ((World.cell?_setCell_other _ _ _ _ (fun q => by have := congrArg Addr.off q; simp only at this; omega)).trans (h.c1 j hj))⟩
  exact ⟨_, u, u', s2, (World.cell?_setCell_other _ _ _ _ (fun q => by have := congrArg Addr.off q; simp only at this; omega)).trans hu, (World.cell?_setCell_other _ _ _ _ (fun q => by have := congrArg Addr.off q; simp only at this; omega)).trans hu'⟩

/-- all that the walk of an exchange wants, at once -/
theorem SC.swapAll (h : SC it w0 blk off d W) (i j : Nat) (hi : i < d.size) (hj : j < d.size) :
    ∃ (x y : Int × Int) (u2 u3 u4 : Value),
      W.cell? ⟨blk, off + i * 2, none⟩ = some (.int .i64 x.1) ∧ W.cell? ⟨blk, off + i * 2 + 1, none⟩ = some (.int .i64 x.2) ∧
      W.cell? ⟨blk, off + j * 2, none⟩ = some (.int .i64 y.1) ∧ W.cell? ⟨blk, off + j * 2 + 1, none⟩ = some (.int .i64 y.2) ∧
      W.frozen? ⟨blk, off + i * 2, none⟩ = false ∧ W.frozen? ⟨blk, off + i * 2 + 1, none⟩ = false ∧
      W.frozen? ⟨blk, off + j * 2, none⟩ = false ∧ W.frozen? ⟨blk, off + j * 2 + 1, none⟩ = false ∧
      (W.setCell ⟨blk, off + i * 2, none⟩ (.int .i64 y.1)).cell? ⟨blk, off + i * 2 + 1, none⟩ = some u2 ∧
      ((W.setCell ⟨blk, off + i * 2, none⟩ (.int .i64 y.1)).setCell ⟨blk, off + i * 2 + 1, none⟩ (.int .i64 y.2)).cell? ⟨blk, off + j * 2, none⟩ = some u3 ∧
      (((W.setCell ⟨blk, off + i * 2, none⟩ (.int .i64 y.1)).setCell ⟨blk, off + i * 2 + 1, none⟩ (.int .i64 y.2)).setCell ⟨blk, off + j * 2, none⟩ (.int .i64 x.1)).cell? ⟨blk, off + j * 2 + 1, none⟩ = some u4 ∧
      Hid (SC it w0 blk off (swp d i j) ((((W.setCell ⟨blk, off + i * 2, none⟩ (.int .i64 y.1)).setCell ⟨blk, off + i * 2 + 1, none⟩ (.int .i64 y.2)).setCell ⟨blk, off + j * 2, none⟩ (.int .i64 x.1)).setCell ⟨blk, off + j * 2 + 1, none⟩ (.int .i64 x.2)).drew) := by
  obtain ⟨u2, u3, u4, g2, g3, g4⟩ := h.swapFacts i j hi hj (x := it d[i]!) (y := it d[j]!)
  exact ⟨it d[i]!, it d[j]!, u2, u3, u4, h.c0 i hi, h.c1 i hi, h.c0 j hj, h.c1 j hj, h.f0 i hi, h.f1 i hi, h.f0 j hj, h.f1 j hj, g2, g3, g4, hidden (h.swap i j hi hj).drew⟩
end

/-- an item whose key has a rank, with the place at which it stood first -/
abbrev It (rk : Array Int) := {x : (Int × Int) × Nat // 0 ≤ x.1.1 ∧ x.1.1 < (rk.size : Int)}
/-- the order by the ranks -/
def ltR (rk : Array Int) (x y : It rk) : Bool := decide (rankOf rk x.1.1 < rankOf rk y.1.1)

section
variable {rk : Array Int} [Inhabited (It rk)] {w0 W : World} {blk off B : Nat} {d : Array (It rk)}

/-- all that the walk of a comparison wants, at once -/
theorem SC.cmpAll (h : SC (fun x : It rk => x.1.1) w0 blk off d W) (R : ∀ W, w0.grownBy W (some blk) → Ranks W B rk) (i j : Nat) (hi : i < d.size) (hj : j < d.size) :
    ∃ (x y : Int × Int) (v : Int),
      (∀ n os, (Go.Sort.grow (W.drewN n) os).cell? ⟨blk, off + i * 2, none⟩ = some (.int .i64 x.1)) ∧ (∀ n os, (Go.Sort.grow (W.drewN n) os).cell? ⟨blk, off + i * 2 + 1, none⟩ = some (.int .i64 x.2)) ∧
      (∀ n os, (Go.Sort.grow (W.drewN n) os).cell? ⟨blk, off + j * 2, none⟩ = some (.int .i64 y.1)) ∧ (∀ n os, (Go.Sort.grow (W.drewN n) os).cell? ⟨blk, off + j * 2 + 1, none⟩ = some (.int .i64 y.2)) ∧
      (∀ n os, Calls Try.prog 43 #[.agg #[.int .i64 x.1, .int .i64 x.2], .agg #[.int .i64 y.1, .int .i64 y.2], .pointer (some ⟨B, 0, none⟩)] (Go.Sort.grow (W.drewN n) os) fun e w' =>
        e = .returned (.int .i64 v) ∧ ∃ q os', w' = Go.Sort.grow ((Go.Sort.grow (W.drewN n) os).drewN q) os') ∧
      (v < 0 ↔ ltR rk d[i]! d[j]! = true) ∧ Hid (∀ n os, SC (fun x : It rk => x.1.1) w0 blk off d (Go.Sort.grow (W.drewN n) os)) := by
  refine ⟨d[i]!.1.1, d[j]!.1.1, cmpI (rankOf rk d[i]!.1.1) (rankOf rk d[j]!.1.1), fun n os => (h.grow n os).c0 i hi, fun n os => (h.grow n os).c1 i hi, fun n os => (h.grow n os).c0 j hj, fun n os => (h.grow n os).c1 j hj, fun n os => ?_, ?_, hidden fun n os => h.grow n os⟩
  · exact closure_any _ _ _ _ _ (R _ (h.grow n os).gb) d[i]!.2.1 d[i]!.2.2 d[j]!.2.1 d[j]!.2.2
  · rw [cmpI_neg]
    unfold ltR
    simp
end

end Go.Proofs.Ytfkhfkbkjiekkaa
