/-
  The comparison of two items by the ranks of their keys: what 'compared' and the closure of 'order' hand back, in whatever world.
-/
import Derived.Test.YtfkhfkbkjiekkaaProg
import Derived.WalkKit
import Derived.WalkSpells
import Derived.WalkLawsBesides
import Derived.Deep.QuietTactic
import Derived.BigQuiet
import Derived.Shelf.SlSortCmp.QuietGrown
namespace Go.Proofs.Ytfkhfkbkjiekkaa
open Go.RowKit Go.Sort

theorem and_seven (n : Int) : bits .and .i64 n 7 = n % 8 := by
  have h7 : (BitVec.ofInt 64 7).toNat = 2 ^ 3 - 1 := by decide
  have key : (BitVec.ofInt 64 n &&& BitVec.ofInt 64 7).toNat = (n % ((2 ^ 64 : Nat) : Int)).toNat % 2 ^ 3 := by
    rw [BitVec.toNat_and, BitVec.toNat_ofInt, h7, Nat.and_two_pow_sub_one_eq_mod]
  show IntKind.i64.wrap ((BitVec.ofInt 64 n &&& BitVec.ofInt 64 7).toNat : Nat) = n % 8
  rw [key, IntKind.wrap_i64]
  omega

/-- what 'compared' hands back -/
def cmpI (x y : Int) : Int := if x < y then -1 - x % 8 else if y < x then 1 + y % 8 else 0

theorem cmpI_neg (x y : Int) : cmpI x y < 0 ↔ x < y := by
  unfold cmpI
  split
  · omega
  · split <;> omega

theorem cmpI_pos (x y : Int) : 0 < cmpI x y ↔ y < x := by
  unfold cmpI
  split
  · omega
  · split <;> omega

theorem cmpI_zero (x y : Int) : cmpI x y = 0 ↔ x = y := by
  unfold cmpI
  split
  · omega
  · split <;> omega

/-- w' is w, some draws further, with new blocks behind. -/
def Gr (w w' : World) : Prop := ∃ q os, w' = grow (w.drewN q) os

theorem Gr.refl (w : World) : Gr w w := ⟨0, #[], by rw [grow_empty]; rfl⟩
theorem Gr.trans {a b c : World} (h : Gr a b) (k : Gr b c) : Gr a c := by
  obtain ⟨q, os, rfl⟩ := h
  obtain ⟨q', os', rfl⟩ := k
  exact ⟨q + q', os ++ os', by show grow (grow ((a.drewN q).drewN q') os) os' = _; rw [grow_grow, World.drewN_drewN]⟩
theorem Gr.drewN {a b : World} (h : Gr a b) (n : Nat) : Gr a (b.drewN n) := h.trans ⟨n, #[], by rw [grow_empty]⟩
theorem Gr.drew {a b : World} (h : Gr a b) : Gr a b.drew := h.drewN 1
theorem Gr.alloc {a b : World} (h : Gr a b) (o : Obj) : Gr a (b.alloc o) := h.trans ⟨0, #[o], by rw [alloc_eq_grow]; rfl⟩
theorem Gr.grow {a b : World} (h : Gr a b) (n : Nat) (os : Array Obj) : Gr a (Go.Sort.grow (b.drewN n) os) := h.trans ⟨n, os, rfl⟩
theorem Gr.size {a b : World} (h : Gr a b) : a.heap.size ≤ b.heap.size := by
  obtain ⟨q, os, rfl⟩ := h
  rw [size_grow]
  exact Nat.le_add_right _ _
theorem Gr.cell {a b : World} (h : Gr a b) {p : Addr} (hp : p.block < a.heap.size) : b.cell? p = a.cell? p := by
  obtain ⟨q, os, rfl⟩ := h
  rw [cell?_grow _ _ _ (by exact hp)]
  rfl
theorem Gr.kept {a b : World} (h : Gr a b) {p : Addr} {v : Value} (hp : a.cell? p = some v) : b.cell? p = some v := by
  rw [h.cell (World.block_lt_of_cell? a p hp), hp]
theorem Gr.below {a b : World} (h : Gr a b) : Below a.heap.size a b := by
  obtain ⟨q, os, rfl⟩ := h
  exact ⟨rfl, rfl, rfl, by rw [size_grow]; exact Nat.le_add_right _ _, fun k hk => heap_grow_old _ _ hk⟩

/-- w' is w, some draws further. -/
def Dr (w w' : World) : Prop := ∃ n, w' = w.drewN n
theorem Dr.refl (w : World) : Dr w w := ⟨0, rfl⟩
theorem Dr.drewN {a b : World} (h : Dr a b) (n : Nat) : Dr a (b.drewN n) := by
  obtain ⟨m, rfl⟩ := h
  exact ⟨m + n, by rw [World.drewN_drewN]⟩
theorem Dr.drew {a b : World} (h : Dr a b) : Dr a b.drew := h.drewN 1
theorem Dr.trans {a b c : World} (h : Dr a b) (k : Dr b c) : Dr a c := by
  obtain ⟨m, rfl⟩ := k
  exact h.drewN m
theorem Dr.gr {a b : World} (h : Dr a b) : Gr a b := by
  obtain ⟨m, rfl⟩ := h
  exact (Gr.refl a).drewN m
theorem Dr.cell {a b : World} (h : Dr a b) (p : Addr) : b.cell? p = a.cell? p := by
  obtain ⟨m, rfl⟩ := h
  rfl
theorem Dr.kept {a b : World} (h : Dr a b) {p : Addr} {v : Value} (hp : a.cell? p = some v) : b.cell? p = some v := by rw [h.cell, hp]

/-- A slice value's address p, with as many places as r has: its cells hold r. -/
def Ints (w : World) (p : Option Addr) (r : Array Int) : Prop :=
  r.size = 0 ∨ ∃ b off, p = some ⟨b, off, none⟩ ∧ ∀ i, i < r.size → w.cell? ⟨b, off + i, none⟩ = some (.int .i64 r[i]!)
def Items (w : World) (p : Option Addr) (d : Array (Int × Int)) : Prop :=
  d.size = 0 ∨ ∃ b off, p = some ⟨b, off, none⟩ ∧ ∀ i, i < d.size → w.cell? ⟨b, off + i * 2, none⟩ = some (.int .i64 d[i]!.1) ∧ w.cell? ⟨b, off + i * 2 + 1, none⟩ = some (.int .i64 d[i]!.2)

theorem Ints.gr {w w' : World} {p : Option Addr} {r : Array Int} (h : Ints w p r) (g : Gr w w') : Ints w' p r :=
  h.imp id fun ⟨b, off, hp, h⟩ => ⟨b, off, hp, fun i hi => g.kept (h i hi)⟩
theorem Items.gr {w w' : World} {p : Option Addr} {d : Array (Int × Int)} (h : Items w p d) (g : Gr w w') : Items w' p d :=
  h.imp id fun ⟨b, off, hp, h⟩ => ⟨b, off, hp, fun i hi => ⟨g.kept (h i hi).1, g.kept (h i hi).2⟩⟩
theorem Ints.at {w : World} {p : Option Addr} {r : Array Int} (h : Ints w p r) {i : Nat} (hi : i < r.size) :
    ∃ b off, p = some ⟨b, off, none⟩ ∧ ∀ i, i < r.size → w.cell? ⟨b, off + i, none⟩ = some (.int .i64 r[i]!) := h.resolve_left (Nat.ne_of_gt (Nat.lt_of_le_of_lt (Nat.zero_le _) hi))
theorem Items.at {w : World} {p : Option Addr} {d : Array (Int × Int)} (h : Items w p d) {i : Nat} (hi : i < d.size) :
    ∃ b off, p = some ⟨b, off, none⟩ ∧ ∀ i, i < d.size → w.cell? ⟨b, off + i * 2, none⟩ = some (.int .i64 d[i]!.1) ∧ w.cell? ⟨b, off + i * 2 + 1, none⟩ = some (.int .i64 d[i]!.2) := h.resolve_left (Nat.ne_of_gt (Nat.lt_of_le_of_lt (Nat.zero_le _) hi))

/-- The block B holds the slice of the ranks, whose numbers are rk. -/
def Ranks (w : World) (B : Nat) (rk : Array Int) : Prop := ∃ p c, w.cell? ⟨B, 0, none⟩ = some (.slice p rk.size c) ∧ Ints w p rk

theorem Ranks.gr {w w' : World} {B : Nat} {rk : Array Int} (h : Ranks w B rk) (g : Gr w w') : Ranks w' B rk := by
  obtain ⟨p, c, h1, h2⟩ := h
  exact ⟨p, c, g.kept h1, h2.gr g⟩

/-- each key has a rank -/
def Keyed (d : Array (Int × Int)) (n : Nat) : Prop := ∀ i, i < d.size → 0 ≤ d[i]!.1 ∧ d[i]!.1 < (n : Int)

theorem ret_bool {a b : Bool} (h : a = b) : Ending.returned (.bool a) = .returned (.bool b) := by rw [h]
theorem ret_i64 {a b : Int} (h : a = b) : Ending.returned (.int .i64 a) = .returned (.int .i64 b) := by rw [h]
theorem hidden {p : Prop} (h : p) : Hid p := h

set_option maxHeartbeats 400000 in
theorem compared_any (x y : Int) (w : World) :
    Calls Try.prog 36 #[.int .i64 x, .int .i64 y] w fun e w' => e = .returned (.int .i64 (cmpI x y)) ∧ w' = w := by
  have b0 := and_seven x
  have b1 := and_seven y
  have c1 : x % 8 < 8 := by omega
  have c2 : y % 8 < 8 := by omega
  have c3 : 0 ≤ x % 8 := by omega
  have c4 : 0 ≤ y % 8 := by omega
  by_cases h1 : x < y
  · have hr : cmpI x y = -1 - x % 8 := by unfold cmpI; rw [if_pos h1]
    go_enter Try.func36, Try.ntmps36
    go_wp2
    go_ret
    exact ⟨ret_i64 (by first | rfl | rw [hr]), rfl⟩
  · by_cases h2 : y < x
    · have hr : cmpI x y = 1 + y % 8 := by unfold cmpI; rw [if_neg h1, if_pos h2]
      go_enter Try.func36, Try.ntmps36
      go_wp2
      go_ret
      exact ⟨ret_i64 (by first | rfl | rw [hr]), rfl⟩
    · have hr : cmpI x y = 0 := by unfold cmpI; rw [if_neg h1, if_neg h2]
      go_enter Try.func36, Try.ntmps36
      go_wp2
      go_ret
      exact ⟨ret_i64 (by first | rfl | rw [hr]), rfl⟩

/-- the rank of an item -/
def rankOf (rk : Array Int) (x : Int × Int) : Int := rk[x.1.toNat]!

set_option maxHeartbeats 1000000 in
/-- The closure of 'order': it boxes its two items. -/
theorem closure_any (x y : Int × Int) (B : Nat) (rk : Array Int) (w : World) (hR : Ranks w B rk)
    (p1 : 0 ≤ x.1) (q1 : x.1 < (rk.size : Int)) (p2 : 0 ≤ y.1) (q2 : y.1 < (rk.size : Int)) :
    Calls Try.prog 43 #[.agg #[.int .i64 x.1, .int .i64 x.2], .agg #[.int .i64 y.1, .int .i64 y.2], .pointer (some ⟨B, 0, none⟩)] w fun e w' =>
      e = .returned (.int .i64 (cmpI (rankOf rk x) (rankOf rk y))) ∧ Gr w w' := by
  unfold rankOf
  obtain ⟨p, c, hbox, hc0⟩ := hR
  obtain ⟨rb, ro, rfl, hc⟩ := hc0.at (i := x.1.toNat) (by omega)
  have hB : B < w.heap.size := World.block_lt_of_cell? w _ hbox
  have e1 := hc x.1.toNat (by omega)
  have e2 := hc y.1.toNat (by omega)
  have hrb : rb < w.heap.size := World.block_lt_of_cell? w _ e1
  clear hc
  generalize rk[x.1.toNat]! = r1 at e1 ⊢
  generalize rk[y.1.toNat]! = r2 at e2 ⊢
  generalize rk.size = n at hbox q1 q2
  obtain ⟨k1, m1⟩ := x
  obtain ⟨k2, m2⟩ := y
  simp only at e1 e2 p1 q1 p2 q2 ⊢
  go_enter Try.func43, Try.ntmps43
  go_wp2
  go_quiet ((go_at_call 36; exact Calls.quiet_of_same (compared_any _ _ _)))
  go_wp2
  go_ret
  exact ⟨rfl, (((Gr.refl _).alloc _).alloc _).drewN _⟩

end Go.Proofs.Ytfkhfkbkjiekkaa
