/-
  'FnExactStable', walked: well, impl.Stable, spec.Stable, Equal.
-/
import Derived.Test.YtfkhfkbkjiekkaaStableSpec
import Derived.Laws.StructEq
namespace Go.Proofs.Ytfkhfkbkjiekkaa
open Go.RowKit Go.Sort

theorem noHeld34 : Try.prog.stoodInHeld 34 = false := by kernel_rfl

set_option maxHeartbeats 1000000 in
theorem equalItems_any (p q : Option Addr) (cap cap' : Nat) (d : Array (Int × Int)) (w : World) (hI : Items w p d) (hJ : Items w q d) (hsz : d.size < 4611686018427387904) :
    Calls Try.prog 25 #[.slice p d.size cap, .slice q d.size cap'] w fun e w' => e = .returned (.bool true) ∧ Dr w w' := by
  have held := noHeld34
  have hsb : ((d.size : Int) != (d.size : Int)) = false := by simp
  go_enter Try.func25, Try.ntmps25
  go_wp2
  go_loopg [13] d.size (fun g vi wr => ∃ i : Nat, vi = .int .i64 i ∧ i ≤ d.size ∧ d.size - i ≤ g ∧ Dr w wr)
  case atStart => exact ⟨0, rfl, Nat.zero_le _, Nat.le_refl _, Dr.refl _⟩
  case round =>
    obtain ⟨i, rfl, hi, hg, hD⟩ := hrel
    by_cases hlt : i < d.size
    · obtain ⟨b, off, rfl, hC⟩ := hI.at hlt
      obtain ⟨b', off', rfl, hC'⟩ := hJ.at hlt
      have l1 := hD.kept (hC i hlt).1
      have l2 := hD.kept (hC i hlt).2
      have l3 := hD.kept (hC' i hlt).1
      have l4 := hD.kept (hC' i hlt).2
      have p1 : (i : Int) < (d.size : Int) := by omega
      clear hC hC'
      generalize d[i]! = x at l1 l2 l3 l4
      go_wp2_with fail
      go_quiet (fail)
      go_wp2
      go_roundg (d.size - (i + 1))
      case measure => omega
      case rel => exact ⟨i + 1, by go_num, by omega, by omega, hD.drewN nq⟩
    · go_wp2
      go_ret
      exact ⟨rfl, hD⟩

theorem Gr.belowOf {a b : World} (h : Gr a b) {B : Nat} (hB : B ≤ a.heap.size) : Below B a b := by
  have := h.below
  exact ⟨this.os, this.tape, this.output, this.size, fun k hk => this.block k (Nat.lt_of_lt_of_le hk hB)⟩
theorem below_less {a b : World} {B C : Nat} (h : Below C a b) (hB : B ≤ C) : Below B a b := ⟨h.os, h.tape, h.output, h.size, fun k hk => h.block k (Nat.lt_of_lt_of_le hk hB)⟩
theorem Items.below {a b : World} {p : Option Addr} {d : Array (Int × Int)} (h : Items a p d) (g : Below a.heap.size a b) : Items b p d :=
  h.imp id fun ⟨k, off, hp, hC⟩ => ⟨k, off, hp, fun i hi => by
    have hk : k < a.heap.size := World.block_lt_of_cell? a _ (hC i hi).1
    exact ⟨(g.cell (p := ⟨k, off + i * 2, none⟩) hk).trans (hC i hi).1, (g.cell (p := ⟨k, off + i * 2 + 1, none⟩) hk).trans (hC i hi).2⟩⟩

theorem size_insAll {gt : Int × Int → Int × Int → Bool} (d : Array (Int × Int)) : (insAll gt d.toList).toArray.size = d.size := by rw [List.size_toArray, length_insAll, Array.length_toList]

set_option maxHeartbeats 1000000 in
theorem lawStable_any (p q : Option Addr) (cap cap' : Nat) (d : Array (Int × Int)) (rk : Array Int) (w : World) (hI : Items w p d) (hR : Ints w q rk) :
    Calls Try.prog 8 #[.slice p d.size cap, .slice q rk.size cap'] w fun e w' => e = .returned (.bool true) ∧ Below w.heap.size w w' := by
  by_cases h1 : 2147483647 < (d.size : Int)
  · go_enter Try.func8, Try.ntmps8
    go_wp2
    go_ret
    exact ⟨rfl, Below.refl _ _⟩
  · by_cases h2 : 2147483647 < (rk.size : Int)
    · go_enter Try.func8, Try.ntmps8
      go_wp2
      go_ret
      exact ⟨rfl, Below.refl _ _⟩
    · have hw := well_any p q cap cap' d rk.size w hI (by omega) (by omega)
      go_enter Try.func8, Try.ntmps8
      go_wp2_with fail
      refine hw.mono ?_
      rintro e w1 ⟨ok, rfl, hok, hg⟩
      cases ok with
      | false =>
        go_wp2
        go_ret
        exact ⟨rfl, hg.below⟩
      | true =>
        have hk := hok.1 rfl
        have c26 := implStable_any p q cap cap' d w1 (hI.gr hg) (hR.gr hg) hk.1 (by omega)
        have c27 := fun W (b : Below w1.heap.size w1 W) => specStable_any p q cap cap' d W ((hI.gr hg).below b) ((hR.gr hg).below b) hk.1 (by omega)
        have C := hidden (And.intro c26 c27)
        clear hok hw c26 c27 hk
        go_wp2_with fail
        refine C.out.1.mono ?_
        rintro e w2 ⟨r2, k2, rfl, i2, b2⟩
        go_wp2_with fail
        refine (C.out.2 _ b2).mono ?_
        rintro e w3 ⟨r3, k3, rfl, i3, b3⟩
        have c25 := equalItems_any r2 r3 k2 k3 _ w3 (i2.below b3) i3 (by rw [size_insAll]; omega)
        rw [size_insAll] at c25
        have C3 := hidden c25
        clear c25 i2 i3 C
        go_wp2_with fail
        refine C3.out.mono ?_
        rintro e w4 ⟨rfl, b4⟩
        go_wp2
        go_ret
        exact ⟨rfl, (hg.below.trans ((below_less b2 hg.below.size).trans (below_less b3 (Nat.le_trans hg.below.size b2.size)))).trans b4.below⟩

end Go.Proofs.Ytfkhfkbkjiekkaa
