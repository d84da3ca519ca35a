/-
  'Well', and whether items are in order by the reference.
-/
import Derived.Test.YtfkhfkbkjiekkaaRead
namespace Go.Proofs.Ytfkhfkbkjiekkaa
open Go.RowKit Go.Sort

/-- what Well tells -/
def WellPost (d : Array (Int × Int)) (n : Nat) (w : World) (e : Ending) (w' : World) : Prop :=
  ∃ ok : Bool, e = .returned (.bool ok) ∧ (ok = true ↔ Keyed d n ∧ d.size ≤ 4096 ∧ n ≤ 4096) ∧ Gr w w'

set_option maxHeartbeats 1000000 in
theorem well_any (p q : Option Addr) (cap cap' : Nat) (d : Array (Int × Int)) (n : Nat) (w : World) (hI : Items w p d) (hsz : d.size < 4611686018427387904) (hn : n < 4611686018427387904) :
    Calls Try.prog 12 #[.slice p d.size cap, .slice q n cap'] w (WellPost d n w) := by
  go_enter Try.func12, Try.ntmps12
  go_wp2
  go_loopw [9] (fun vi wr => ∃ i : Nat, vi = .int .i64 i ∧ i ≤ d.size ∧ Gr w wr ∧ Hid (∀ j, j < i → 0 ≤ d[j]!.1 ∧ d[j]!.1 < (n : Int))) (fun vi _ => d.size - (intOf vi).toNat)
  case atStart => exact ⟨0, rfl, Nat.zero_le _, Gr.refl _, hidden (fun j hj => absurd hj (Nat.not_lt_zero j))⟩
  case round =>
    obtain ⟨i, rfl, hi, hG, HO⟩ := hrel
    by_cases hlt : i < d.size
    · obtain ⟨b, off, rfl, hC⟩ := hI.at hlt
      have l1 := hG.kept (hC i hlt).1
      have l2 := hG.kept (hC i hlt).2
      have hN : ∀ x, d[i]! = x → ¬ (0 ≤ x.1 ∧ x.1 < (n : Int)) → ¬ Keyed d n := fun x hx h hk => h (hx ▸ hk i hlt)
      have hY : ∀ x, d[i]! = x → (0 ≤ x.1 ∧ x.1 < (n : Int)) → ∀ j, j < i + 1 → 0 ≤ d[j]!.1 ∧ d[j]!.1 < (n : Int) := fun x hx h j hj => by
        by_cases e : j = i
        · subst e; rw [hx]; exact h
        · exact HO.out j (by omega)
      obtain ⟨x, hx⟩ : ∃ x, d[i]! = x := ⟨_, rfl⟩
      have hN := hidden (hN x hx)
      have hY := hidden (hY x hx)
      rw [hx] at l1 l2
      clear hx hC
      obtain ⟨k, m⟩ := x
      simp only at l1 l2 hN hY
      by_cases h0 : k < 0
      · go_wp2
        go_ret
        exact ⟨false, rfl, ⟨fun h => (by cases h), fun h => absurd h.1 (hN.out (by show ¬ (0 ≤ k ∧ k < (n : Int)); omega))⟩, hG.alloc _⟩
      · by_cases h1 : (n : Int) ≤ k
        · go_wp2
          go_ret
          exact ⟨false, rfl, ⟨fun h => (by cases h), fun h => absurd h.1 (hN.out (by show ¬ (0 ≤ k ∧ k < (n : Int)); omega))⟩, hG.alloc _⟩
        · go_wp2
          go_roundw
          case rel => exact ⟨i + 1, by go_num, by omega, hG.alloc _, hidden (hY.out (by show 0 ≤ k ∧ k < (n : Int); omega))⟩
          case measure => simp [intOf]; omega
    · have hK : Keyed d n := fun j hj => HO.out j (by omega)
      have HK := hidden hK
      clear hK
      by_cases h1 : d.size ≤ 4096
      · by_cases h2 : n ≤ 4096
        · go_wp2
          go_ret
          exact ⟨true, ret_bool (decide_eq_true (by omega)), ⟨fun _ => ⟨HK.out, h1, h2⟩, fun _ => rfl⟩, hG⟩
        · go_wp2
          go_ret
          exact ⟨false, ret_bool (decide_eq_false (by omega)), ⟨fun h => (by cases h), fun h => absurd h.2.2 (by omega)⟩, hG⟩
      · go_wp2
        go_ret
        exact ⟨false, rfl, ⟨fun h => (by cases h), fun h => absurd h.2.1 (by omega)⟩, hG⟩

/-- InOrder's loop, from i on: 'k' places are left -/
def upOk (rk : Array Int) (d : Array (Int × Int)) (i : Nat) : Nat → Bool
  | 0 => true
  | k + 1 => if rankOf rk d[i]! < rankOf rk d[i - 1]! then false else upOk rk d (i + 1) k

set_option maxHeartbeats 1000000 in
theorem inOrder_any (p q : Option Addr) (cap cap' : Nat) (d : Array (Int × Int)) (rk : Array Int) (w : World) (hI : Items w p d) (hR : Ints w q rk) (hK : Keyed d rk.size) (hsz : d.size < 4611686018427387904) :
    Calls Try.prog 14 #[.slice p d.size cap, .slice q rk.size cap'] w fun e w' => e = .returned (.bool (upOk rk d 1 (d.size - 1))) ∧ Dr w w' := by
  go_enter Try.func14, Try.ntmps14
  go_wp2
  go_loopw [5] (fun vi wr => ∃ i : Nat, vi = .int .i64 i ∧ 1 ≤ i ∧ i ≤ d.size + 1 ∧ Dr w wr ∧ Hid (upOk rk d 1 (d.size - 1) = upOk rk d i (d.size - i))) (fun vi _ => d.size - (intOf vi).toNat)
  case atStart => exact ⟨1, rfl, Nat.le_refl _, by omega, Dr.refl _, hidden rfl⟩
  case round =>
    obtain ⟨i, rfl, hi1, hi2, hD, HO⟩ := hrel
    by_cases hlt : i < d.size
    · obtain ⟨j, rfl⟩ : ∃ j : Nat, i = j + 1 := ⟨i - 1, by omega⟩
      obtain ⟨b, off, rfl, hC⟩ := hI.at hlt
      have k1 := hK (j + 1) hlt
      have k2 := hK j (by omega)
      obtain ⟨rb, ro, rfl, hRC⟩ := hR.at (i := d[j]!.1.toNat) (by omega)
      have l1 := hD.kept (hC (j + 1) (by omega)).1
      have l3 := hD.kept (hC j (by omega)).1
      have hstep : upOk rk d (j + 1) (d.size - (j + 1)) = if rankOf rk d[j + 1]! < rankOf rk d[j]! then false else upOk rk d (j + 2) (d.size - (j + 2)) := by
        rw [show d.size - (j + 1) = (d.size - (j + 2)) + 1 by omega]
        rfl
      generalize d[j + 1]! = x at l1 k1 hstep
      generalize d[j]! = y at l3 k2 hstep
      have m1 := hD.kept (hRC x.1.toNat (by omega))
      have m2 := hD.kept (hRC y.1.toNat (by omega))
      change _ = some (Value.int .i64 (rankOf rk x)) at m1
      change _ = some (Value.int .i64 (rankOf rk y)) at m2
      clear hC hRC
      have HS := hidden hstep
      clear hstep
      have rw1 : IntKind.i64.wrap (j : Int) = (j : Int) := by rw [IntKind.wrap_i64]; omega
      have e1 : ((j : Int) + 1).toNat = j + 1 := by omega
      have p1 : (0 : Int) ≤ (j : Int) + 1 := by omega
      have p2 : (j : Int) < (d.size : Int) := by omega
      have p3 : (j : Int) + 1 < (d.size : Int) := by omega
      obtain ⟨a1, b1⟩ := k1
      obtain ⟨a2, b2⟩ := k2
      by_cases hv : rankOf rk x < rankOf rk y
      · go_wp2_with fail
        go_quiet (fail)
        go_wp2
        go_ret
        exact ⟨ret_bool (by rw [HO.out, HS.out, if_pos hv]), hD.drewN nq⟩
      · go_wp2_with fail
        go_quiet (fail)
        go_wp2
        go_roundw
        case rel =>
          exact ⟨j + 2, by go_num, by omega, by omega, hD.drewN nq, hidden (by rw [HO.out, HS.out, if_neg (by omega)])⟩
        case measure => simp [intOf]; omega
    · have e0 : d.size - i = 0 := by omega
      go_wp2
      go_ret
      exact ⟨ret_bool (by rw [HO.out, e0]; rfl), hD⟩

end Go.Proofs.Ytfkhfkbkjiekkaa
