/-
  The functions that only read items: whether they are in order, by any order.
-/
import Derived.Test.YtfkhfkbkjiekkaaCmp
import Derived.Deep.LoopGhost
namespace Go.Proofs.Ytfkhfkbkjiekkaa
open Go.RowKit Go.Sort

/-- IsSortedFunc's loop, from i downwards -/
def downOk (rk : Array Int) (d : Array (Int × Int)) : Nat → Bool
  | 0 => true
  | i + 1 => if rankOf rk d[i + 1]! < rankOf rk d[i]! then false else downOk rk d i

set_option maxHeartbeats 1000000 in
theorem isSortedFunc_any (p : Option Addr) (cap B : Nat) (d : Array (Int × Int)) (rk : Array Int) (w : World) (hI : Items w p d) (hR : Ranks w B rk) (hK : Keyed d rk.size) (hsz : d.size < 4611686018427387904) :
    Calls Try.prog 31 #[.slice p d.size cap, .func (.func 43) #[] #[.pointer (some ⟨B, 0, none⟩)]] w fun e w' =>
      e = .returned (.bool (downOk rk d (d.size - 1))) ∧ Gr w w' := by
  have mixed : Try.prog.follows .mixedOrders = true := by kernel_rfl
  go_enter Try.func31, Try.ntmps31
  go_wp2
  go_loopg [5] d.size (fun g vi wr => ∃ i : Int, vi = .int .i64 i ∧ -1 ≤ i ∧ i < (d.size : Int) ∧ i ≤ (g : Int) ∧ Gr w wr ∧ Hid (downOk rk d (d.size - 1) = downOk rk d i.toNat))
  case atStart =>
    refine ⟨(d.size : Int) - 1, rfl, by omega, by omega, by omega, Gr.refl _, ?_⟩
    show _ = _
    congr 1
    omega
  case round =>
    obtain ⟨i, rfl, hi0, hi1, hig, hG, HO⟩ := hrel
    by_cases hp : 0 < i
    · obtain ⟨j, rfl⟩ : ∃ j : Nat, i = (j : Int) + 1 := ⟨(i - 1).toNat, by omega⟩
      have k1 := hK (j + 1) (by omega)
      have k2 := hK j (by omega)
      obtain ⟨b, off, rfl, hC⟩ := hI.at (i := j) (by omega)
      have l1 := fun n os => (hG.grow n os).kept (hC (j + 1) (by omega)).1
      have l2 := fun n os => (hG.grow n os).kept (hC (j + 1) (by omega)).2
      have l3 := fun n os => (hG.grow n os).kept (hC j (by omega)).1
      have l4 := fun n os => (hG.grow n os).kept (hC j (by omega)).2
      clear hC
      have hstep : downOk rk d (j + 1) = if rankOf rk d[j + 1]! < rankOf rk d[j]! then false else downOk rk d j := rfl
      generalize d[j + 1]! = x at l1 l2 k1 hstep
      generalize d[j]! = y at l3 l4 k2 hstep
      have hc := fun n os => closure_any x y B rk (grow (wr.drewN n) os) (hR.gr (hG.grow n os)) k1.1 k1.2 k2.1 k2.2
      have rw1 : IntKind.i64.wrap (j : Int) = (j : Int) := by rw [IntKind.wrap_i64]; omega
      have e1 : ((j : Int) + 1).toNat = j + 1 := by omega
      have p1 : (0 : Int) ≤ (j : Int) + 1 := by omega
      have p2 : (j : Int) < (d.size : Int) := by omega
      have HS := hidden hstep
      clear hstep
      by_cases hlt : rankOf rk x < rankOf rk y
      · have hv := (cmpI_neg _ _).2 hlt
        go_wp2_with fail
        go_quiet_grown (first | (go_at_call 43; refine Calls.grown_of (hc _ _)))
        go_wp2
        go_ret
        exact ⟨ret_bool (by rw [HO.out, e1, HS.out, if_pos hlt]), hG.grow _ _⟩
      · have hv : ¬ cmpI (rankOf rk x) (rankOf rk y) < 0 := fun h => hlt ((cmpI_neg _ _).1 h)
        go_wp2_with fail
        go_quiet_grown (first | (go_at_call 43; refine Calls.grown_of (hc _ _)))
        go_wp2
        go_roundg j
        case measure => omega
        case rel =>
          refine ⟨j, rfl, by omega, by omega, by omega, hG.grow _ _, ?_⟩
          show _ = _
          rw [HO.out, e1, HS.out, if_neg (by omega)]
          rfl
    · have e0 : i.toNat = 0 := by omega
      go_wp2
      go_ret
      exact ⟨ret_bool (by rw [HO.out, e0]; rfl), hG⟩

end Go.Proofs.Ytfkhfkbkjiekkaa
