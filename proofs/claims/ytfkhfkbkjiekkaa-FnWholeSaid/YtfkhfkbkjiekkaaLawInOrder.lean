/-
  FnExactInOrder, walked: 'InOrder' answers as the reference does.
-/
import Derived.Test.YtfkhfkbkjiekkaaIn
namespace Go.Proofs.Ytfkhfkbkjiekkaa
open Go.RowKit Go.Sort

theorem downOk_iff (rk : Array Int) (d : Array (Int × Int)) : ∀ k, downOk rk d k = true ↔ ∀ i, i < k → ¬ rankOf rk d[i + 1]! < rankOf rk d[i]!
  | 0 => by simp [downOk]
  | k + 1 => by
    rw [downOk]
    split
    · rename_i h
      constructor
      · intro e; cases e
      · intro e; exact absurd h (e k (by omega))
    · rename_i h
      rw [downOk_iff rk d k]
      constructor
      · intro e i hi
        by_cases hik : i = k
        · subst hik; exact h
        · exact e i (by omega)
      · intro e i hi; exact e i (by omega)

theorem upOk_iff (rk : Array Int) (d : Array (Int × Int)) : ∀ k i, upOk rk d (i + 1) k = true ↔ ∀ j, j < k → ¬ rankOf rk d[i + j + 1]! < rankOf rk d[i + j]!
  | 0, i => by simp [upOk]
  | k + 1, i => by
    rw [upOk]
    simp only [Nat.add_sub_cancel]
    split
    · rename_i h
      constructor
      · intro e; cases e
      · intro e; exact absurd h (e 0 (by omega))
    · rename_i h
      rw [upOk_iff rk d k (i + 1)]
      constructor
      · intro e j hj
        cases j with
        | zero => exact h
        | succ j => have := e j (by omega); rwa [show i + 1 + j = i + (j + 1) by omega] at this
      · intro e j hj
        have := e (j + 1) (by omega)
        rwa [show i + (j + 1) = i + 1 + j by omega] at this

theorem down_up (rk : Array Int) (d : Array (Int × Int)) (k : Nat) : downOk rk d k = upOk rk d 1 k := by
  rw [Bool.eq_iff_iff, downOk_iff, upOk_iff rk d k 0]
  simp

set_option maxHeartbeats 400000 in
theorem order_any (q : Option Addr) (n cap' : Nat) (w : World) :
    Calls Try.prog 32 #[.slice q n cap'] w fun e w' => e = .returned (.func (.func 43) #[] #[.pointer (some ⟨w.heap.size, 0, none⟩)]) ∧ w' = w.alloc (.cells #[.slice q n cap'] 23) := by
  go_enter Try.func32, Try.ntmps32
  go_wp2
  go_ret
  exact ⟨rfl, rfl⟩

theorem ranks_boxed {w : World} {q : Option Addr} {rk : Array Int} (h : Ints w q rk) (cap' : Nat) : Ranks (w.alloc (.cells #[.slice q rk.size cap'] 23)) w.heap.size rk :=
  ⟨q, cap', by simp, h.gr ((Gr.refl _).alloc _)⟩

set_option maxHeartbeats 1000000 in
theorem implInOrder_any (p q : Option Addr) (cap cap' : Nat) (d : Array (Int × Int)) (rk : Array Int) (w : World) (hI : Items w p d) (hR : Ints w q rk) (hK : Keyed d rk.size) (hsz : d.size < 4611686018427387904) :
    Calls Try.prog 13 #[.slice p d.size cap, .slice q rk.size cap'] w fun e w' => e = .returned (.bool (downOk rk d (d.size - 1))) ∧ Gr w w' := by
  have h31 := isSortedFunc_any p cap w.heap.size d rk (w.alloc (.cells #[.slice q rk.size cap'] 23)) (hI.gr ((Gr.refl _).alloc _)) (ranks_boxed hR cap') hK hsz
  go_enter Try.func13, Try.ntmps13
  go_wp2_with (first | (go_at_call 32; refine (order_any _ _ _ _).mono ?_; rintro e w1 ⟨rfl, rfl⟩) | (go_at_call 31; refine h31.mono ?_; rintro e w2 ⟨rfl, hg⟩))
  go_ret
  exact ⟨rfl, ((Gr.refl _).alloc _).trans hg⟩

set_option maxHeartbeats 1000000 in
theorem lawInOrder_any (p q : Option Addr) (cap cap' : Nat) (d : Array (Int × Int)) (rk : Array Int) (w : World) (hI : Items w p d) (hR : Ints w q rk) :
    Calls Try.prog 3 #[.slice p d.size cap, .slice q rk.size cap'] w fun e w' => e = .returned (.bool true) ∧ Gr w w' := by
  by_cases h1 : 2147483647 < (d.size : Int)
  · go_enter Try.func3, Try.ntmps3
    go_wp2
    go_ret
    exact ⟨rfl, Gr.refl _⟩
  · by_cases h2 : 2147483647 < (rk.size : Int)
    · go_enter Try.func3, Try.ntmps3
      go_wp2
      go_ret
      exact ⟨rfl, Gr.refl _⟩
    · have hw := well_any p q cap cap' d rk.size w hI (by omega) (by omega)
      go_enter Try.func3, Try.ntmps3
      go_wp2_with fail
      refine hw.mono ?_
      rintro e w1 ⟨ok, rfl, hok, hg⟩
      cases ok with
      | false =>
        go_wp2
        go_ret
        exact ⟨rfl, hg⟩
      | true =>
        have hk := hok.1 rfl
        have h13 := implInOrder_any p q cap cap' d rk w1 (hI.gr hg) (hR.gr hg) hk.1 (by omega)
        have h14 := fun w2 (g : Gr w1 w2) => inOrder_any p q cap cap' d rk w2 ((hI.gr hg).gr g) ((hR.gr hg).gr g) hk.1 (by omega)
        rw [down_up] at h13
        clear hok hw hI hR
        generalize upOk rk d 1 (d.size - 1) = r at h13 h14
        go_wp2_with fail
        refine h13.mono ?_
        rintro e w2 ⟨rfl, hg2⟩
        go_wp2_with fail
        refine (h14 _ hg2).mono ?_
        rintro e w3 ⟨rfl, hD⟩
        go_wp2
        go_ret
        exact ⟨rfl, (hg.trans hg2).trans hD.gr⟩

end Go.Proofs.Ytfkhfkbkjiekkaa
