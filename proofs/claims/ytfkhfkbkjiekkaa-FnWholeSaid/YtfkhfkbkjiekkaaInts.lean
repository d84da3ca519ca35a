/-
  Lists of numbers: 'Less', whether two lists are equal, whether a list is sorted.
-/
import Derived.Test.YtfkhfkbkjiekkaaCmp
import Derived.Deep.LoopGhost
namespace Go.Proofs.Ytfkhfkbkjiekkaa
open Go.RowKit Go.Sort

set_option maxHeartbeats 400000 in
theorem isNaN_any (x : Int) (w : World) : Calls Try.prog 50 #[.int .i64 x] w fun e w' => e = .returned (.bool false) ∧ w' = w := by
  go_enter Try.func50, Try.ntmps50
  go_wp2
  go_ret
  exact ⟨ret_bool (by simp), rfl⟩

set_option maxHeartbeats 400000 in
theorem less_any (x y : Int) (w : World) : Calls Try.prog 44 #[.int .i64 x, .int .i64 y] w fun e w' => e = .returned (.bool (decide (x < y))) ∧ w' = w := by
  go_enter Try.func44, Try.ntmps44
  go_wp2_with (go_at_call 50; refine (isNaN_any _ _).mono ?_; rintro e w' ⟨rfl, rfl⟩)
  go_ret
  exact ⟨rfl, rfl⟩

theorem ext_get {α : Type} [Inhabited α] {a b : Array α} (hs : a.size = b.size) (h : ∀ i, i < a.size → a[i]! = b[i]!) : a = b :=
  Array.ext hs fun i h1 h2 => by have := h i h1; rwa [getElem!_pos a i h1, getElem!_pos b i h2] at this

set_option maxHeartbeats 1000000 in
theorem equal_any (p q : Option Addr) (cap cap' : Nat) (d r : Array Int) (w : World) (hI : Ints w p d) (hJ : Ints w q r) (hsz : d.size < 4611686018427387904) :
    Calls Try.prog 16 #[.slice p d.size cap, .slice q r.size cap'] w fun e w' => e = .returned (.bool (decide (d = r))) ∧ Dr w w' := by
  by_cases hs : d.size = r.size
  · have hsb : ((d.size : Int) != (r.size : Int)) = false := by rw [hs]; simp
    have HS := hidden hs
    clear hs
    go_enter Try.func16, Try.ntmps16
    go_wp2
    go_loopg [13] d.size (fun g vi wr => ∃ i : Nat, vi = .int .i64 i ∧ i ≤ d.size ∧ d.size - i ≤ g ∧ Dr w wr ∧ Hid (∀ j, j < i → d[j]! = r[j]!))
    case atStart => exact ⟨0, rfl, Nat.zero_le _, Nat.le_refl _, Dr.refl _, hidden (fun j hj => absurd hj (Nat.not_lt_zero j))⟩
    case round =>
      obtain ⟨i, rfl, hi, hg, hD, HO⟩ := hrel
      by_cases hlt : i < d.size
      · obtain ⟨b, off, rfl, hC⟩ := hI.at hlt
        obtain ⟨b', off', rfl, hC'⟩ := hJ.at (i := i) (by rw [← HS.out]; exact hlt)
        have l1 := hD.kept (hC i hlt)
        have l2 := hD.kept (hC' i (by rw [← HS.out]; exact hlt))
        have p1 : (i : Int) < (d.size : Int) := by omega
        have p2 : (i : Int) < (r.size : Int) := by rw [← HS.out]; exact p1
        have hE : ∀ x y, d[i]! = x → r[i]! = y → (x = y → ∀ j, j < i + 1 → d[j]! = r[j]!) ∧ (x ≠ y → ¬ d = r) := fun x y hx hy => by
          refine ⟨fun h j hj => ?_, fun h e => h (by rw [← hx, ← hy, e])⟩
          by_cases hji : j = i
          · subst hji; rw [hx, hy, h]
          · exact HO.out j (by omega)
        have HE := hidden (hE _ _ rfl rfl)
        clear hE hC hC'
        generalize d[i]! = x at l1 HE
        generalize r[i]! = y at l2 HE
        by_cases hxy : x = y
        · subst hxy
          have HF := hidden (HE.out.1 rfl)
          clear HE
          go_wp2_with fail
          go_quiet (fail)
          go_wp2
          go_roundg (d.size - (i + 1))
          case measure => omega
          case rel => exact ⟨i + 1, by go_num, by omega, by omega, hD.drewN nq, HF⟩
        · have hb : (x != y) = true := by simpa using hxy
          have HX := hidden hxy
          clear hxy
          go_wp2_with fail
          go_quiet (fail)
          go_wp2
          go_ret
          exact ⟨ret_bool (decide_eq_false (HE.out.2 HX.out)).symm, hD.drewN nq⟩
      · have hdr : d = r := ext_get HS.out (fun j hj => HO.out j (by omega))
        have HD := hidden hdr
        clear hdr
        go_wp2
        go_ret
        exact ⟨ret_bool (decide_eq_true HD.out).symm, hD⟩
  · have hsb : ((d.size : Int) != (r.size : Int)) = true := by simp; omega
    have HS := hidden hs
    clear hs
    go_enter Try.func16, Try.ntmps16
    go_wp2
    go_ret
    exact ⟨ret_bool (decide_eq_false (fun e => HS.out (by rw [e]))).symm, Dr.refl _⟩

/-- IsSorted's loop, from i downwards -/
def fallsNot (d : Array Int) : Nat → Bool
  | 0 => true
  | i + 1 => if d[i + 1]! < d[i]! then false else fallsNot d i

set_option maxHeartbeats 1000000 in
theorem isSorted_any (p : Option Addr) (cap : Nat) (d : Array Int) (w : World) (hI : Ints w p d) (hsz : d.size < 4611686018427387904) :
    Calls Try.prog 33 #[.slice p d.size cap] w fun e w' => e = .returned (.bool (fallsNot d (d.size - 1))) ∧ Dr w w' := by
  go_enter Try.func33, Try.ntmps33
  go_wp2
  go_loopg [3] d.size (fun g vi wr => ∃ i : Int, vi = .int .i64 i ∧ -1 ≤ i ∧ i < (d.size : Int) ∧ i ≤ (g : Int) ∧ Dr w wr ∧ Hid (fallsNot d (d.size - 1) = fallsNot d i.toNat))
  case atStart =>
    refine ⟨(d.size : Int) - 1, rfl, by omega, by omega, by omega, Dr.refl _, ?_⟩
    show _ = _
    congr 1
    omega
  case round =>
    obtain ⟨i, rfl, hi0, hi1, hig, hD, HO⟩ := hrel
    by_cases hp : 0 < i
    · obtain ⟨j, rfl⟩ : ∃ j : Nat, i = (j : Int) + 1 := ⟨(i - 1).toNat, by omega⟩
      obtain ⟨b, off, rfl, hC⟩ := hI.at (i := j) (by omega)
      have l1 := hD.kept (hC (j + 1) (by omega))
      have l3 := hD.kept (hC j (by omega))
      have hstep : fallsNot d (j + 1) = if d[j + 1]! < d[j]! then false else fallsNot d j := rfl
      generalize d[j + 1]! = x at l1 hstep
      generalize d[j]! = y at l3 hstep
      have rw1 : IntKind.i64.wrap (j : Int) = (j : Int) := by rw [IntKind.wrap_i64]; omega
      have e1 : ((j : Int) + 1).toNat = j + 1 := by omega
      have p1 : (0 : Int) ≤ (j : Int) + 1 := by omega
      have p2 : (j : Int) < (d.size : Int) := by omega
      have HS := hidden hstep
      clear hstep hC
      by_cases hlt : x < y
      · go_wp2_with fail
        go_quiet ((go_at_call 44; exact Calls.quiet_of_same (less_any _ _ _)))
        go_wp2
        go_ret
        exact ⟨ret_bool (by rw [HO.out, e1, HS.out, if_pos hlt]), hD.drewN nq⟩
      · go_wp2_with fail
        go_quiet ((go_at_call 44; exact Calls.quiet_of_same (less_any _ _ _)))
        go_wp2
        go_roundg j
        case measure => omega
        case rel =>
          refine ⟨j, rfl, by omega, by omega, by omega, hD.drewN nq, ?_⟩
          show _ = _
          rw [HO.out, e1, HS.out, if_neg (by omega)]
          rfl
    · have e0 : i.toNat = 0 := by omega
      go_wp2
      go_ret
      exact ⟨ret_bool (by rw [HO.out, e0]; rfl), hD⟩

set_option maxHeartbeats 400000 in
theorem rising_any (p : Option Addr) (cap : Nat) (d : Array Int) (w : World) (hI : Ints w p d) (hsz : d.size < 4611686018427387904) :
    Calls Try.prog 15 #[.slice p d.size cap] w fun e w' => e = .returned (.bool (fallsNot d (d.size - 1))) ∧ Dr w w' := by
  have h := isSorted_any p cap d w hI hsz
  generalize fallsNot d (d.size - 1) = r at h ⊢
  go_enter Try.func15, Try.ntmps15
  go_wp2_with (go_at_call 33; refine h.mono ?_; rintro e w' ⟨rfl, hD⟩)
  go_ret
  exact ⟨rfl, hD⟩

theorem Ints.below {w w' : World} {p : Option Addr} {r : Array Int} (h : Ints w p r) (g : Below w.heap.size w w') : Ints w' p r :=
  h.imp id fun ⟨b, off, hp, h⟩ => ⟨b, off, hp, fun i hi => by
    have := h i hi
    rw [← this]
    exact g.cell (World.block_lt_of_cell? w _ this)⟩

theorem Dr.below {B : Nat} {a b : World} (h : Dr a b) : Below B a b := by
  obtain ⟨n, rfl⟩ := h
  exact ⟨rfl, rfl, rfl, Nat.le_refl _, fun _ _ => rfl⟩

end Go.Proofs.Ytfkhfkbkjiekkaa
