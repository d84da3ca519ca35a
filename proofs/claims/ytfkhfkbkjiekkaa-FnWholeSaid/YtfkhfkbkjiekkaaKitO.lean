/-
  The world of a sort of numbers: the row of numbers in its block, what was there else as it was, and new blocks.
-/
import Derived.Test.YtfkhfkbkjiekkaaKit
import Derived.Test.YtfkhfkbkjiekkaaInts
namespace Go.Proofs.Ytfkhfkbkjiekkaa
open Go.RowKit Go.Sort

section
variable {w0 W : World} {blk off : Nat} {d : Array Int}

/-- W is a world of the sort's: the row at ⟨blk, off⟩ holds d; of what was there at w0 nothing else has turned. -/
structure SO (w0 : World) (blk off : Nat) (d : Array Int) (W : World) : Prop where
  gb : w0.grownBy W (some blk)
  lt : blk < w0.heap.size
  c0 : ∀ i, i < d.size → W.cell? ⟨blk, off + i, none⟩ = some (.int .i64 d[i]!)
  f0 : ∀ i, i < d.size → W.frozen? ⟨blk, off + i, none⟩ = false

theorem SO.ltW (h : SO w0 blk off d W) : blk < W.heap.size := Nat.lt_of_lt_of_le h.lt h.gb.size

theorem SO.gr (h : SO w0 blk off d W) {W' : World} (g : Gr W W') : SO w0 blk off d W' where
  gb := grownBy_trans h.gb (grownBy_gr g _)
  lt := h.lt
  c0 i hi := g.kept (h.c0 i hi)
  f0 i hi := by rw [g.frozen (by exact h.ltW)]; exact h.f0 i hi
theorem SO.grow (h : SO w0 blk off d W) (n : Nat) (os : Array Obj) : SO w0 blk off d (Go.Sort.grow (W.drewN n) os) := h.gr ((Gr.refl _).grow n os)
theorem SO.drewN (h : SO w0 blk off d W) (n : Nat) : SO w0 blk off d (W.drewN n) := h.gr ((Gr.refl _).drewN n)
theorem SO.drew (h : SO w0 blk off d W) : SO w0 blk off d W.drew := h.gr (Gr.refl _).drew
theorem SO.alloc (h : SO w0 blk off d W) (o : Obj) : SO w0 blk off d (W.alloc o) := h.gr ((Gr.refl _).alloc o)
theorem SO.setNew (h : SO w0 blk off d W) (c o : Nat) (v : Value) (hc : w0.heap.size ≤ c) : SO w0 blk off d (W.setCell ⟨c, o, none⟩ v) := by
  have hne : c ≠ blk := by have := h.lt; omega
  refine ⟨grownBy_setNew h.gb c o v hc, h.lt, fun i hi => ?_, fun i hi => ?_⟩
  · rw [World.cell?_setCell_other _ _ _ _ (fun e => hne (congrArg Addr.block e))]; exact h.c0 i hi
  · rw [World.frozen?_setCell]; exact h.f0 i hi

/-- one number stored -/
theorem SO.put (h : SO w0 blk off d W) (i : Nat) (hi : i < d.size) (y : Int) : SO w0 blk off (d.setIfInBounds i y) (W.setCell ⟨blk, off + i, none⟩ (.int .i64 y)) := by
  refine ⟨grownBy_trans h.gb (grownBy_set _ _ _ _), h.lt, fun j hj => ?_, fun j hj => ?_⟩
  · have hj' : j < d.size := by simpa using hj
    rw [get_set hj']
    by_cases e : i = j
    · subst e; rw [if_pos rfl]; exact World.cell?_setCell_same _ _ _ (h.c0 i hi)
    · rw [if_neg e, World.cell?_setCell_other _ _ _ _ (fun q => e (by have := congrArg Addr.off q; simp only at this; omega))]; exact h.c0 j hj'
  · rw [World.frozen?_setCell]; exact h.f0 j (by simpa using hj)

/-- all that the walk of an exchange wants, at once -/
theorem SO.swapAll (h : SO w0 blk off d W) (i j : Nat) (hi : i < d.size) (hj : j < d.size) :
    ∃ (x y : Int) (u2 : Value),
      W.cell? ⟨blk, off + i, none⟩ = some (.int .i64 x) ∧ W.cell? ⟨blk, off + j, none⟩ = some (.int .i64 y) ∧
      W.frozen? ⟨blk, off + i, none⟩ = false ∧ W.frozen? ⟨blk, off + j, none⟩ = false ∧
      (W.setCell ⟨blk, off + i, none⟩ (.int .i64 y)).cell? ⟨blk, off + j, none⟩ = some u2 ∧
      Hid (SO w0 blk off (swp d i j) ((W.setCell ⟨blk, off + i, none⟩ (.int .i64 y)).setCell ⟨blk, off + j, none⟩ (.int .i64 x)).drew) := by
  obtain ⟨u, hu⟩ : ∃ u, (W.setCell ⟨blk, off + i, none⟩ (.int .i64 d[j]!)).cell? ⟨blk, off + j, none⟩ = some u := by
    by_cases e : i = j
    · subst e; exact ⟨_, World.cell?_setCell_same _ _ _ (h.c0 i hi)⟩
    · exact ⟨_, (World.cell?_setCell_other _ _ _ _ (fun q => e (by have := congrArg Addr.off q; simp only at this; omega))).trans (h.c0 j hj)⟩
  have h2 := (h.put i hi d[j]!).put j (by simpa using hj) d[i]!
  exact ⟨d[i]!, d[j]!, u, h.c0 i hi, h.c0 j hj, h.f0 i hi, h.f0 j hj, hu, hidden h2.drew⟩

/-- all that the walk of a comparison wants, at once -/
theorem SO.cmpAll (h : SO w0 blk off d W) (i j : Nat) (hi : i < d.size) (hj : j < d.size) :
    ∃ x y : Int, W.cell? ⟨blk, off + i, none⟩ = some (.int .i64 x) ∧ W.cell? ⟨blk, off + j, none⟩ = some (.int .i64 y) ∧ (x < y ↔ ltInt d[i]! d[j]! = true) ∧ Hid (∀ n, SO w0 blk off d (W.drewN n)) :=
  ⟨d[i]!, d[j]!, h.c0 i hi, h.c0 j hj, by unfold ltInt; simp, hidden fun n => h.drewN n⟩
end

end Go.Proofs.Ytfkhfkbkjiekkaa
