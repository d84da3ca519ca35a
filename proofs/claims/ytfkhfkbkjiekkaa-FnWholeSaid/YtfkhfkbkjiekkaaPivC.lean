/-
  The choice of a pivot, items: it lies in the range.
-/
import Derived.Test.YtfkhfkbkjiekkaaMed
import Derived.BigRegion
import Derived.Sort.WalkB2
import Derived.Sort.WalkB3
import Derived.Sort.WalkA6
import Derived.Deep.CutRange
import Derived.Deep.CutBlock
namespace Go.Proofs.Ytfkhfkbkjiekkaa
open Go.RowKit Go.Sort

set_option maxHeartbeats 2000000 in
set_option maxRecDepth 1000000 in
theorem choosePivotC {rk : Array Int} [Inhabited (It rk)] (B blk off cap : Nat) (w0 : World) (R : ∀ W, w0.grownBy W (some blk) → Ranks W B rk) (a b : Nat) (d : Array (It rk)) (w : World) (S : SC (fun x : It rk => x.1.1) w0 blk off d w) (hab : a < b) (hb : b ≤ d.size) (hsz : d.size < 1152921504606846976) :
    Calls Try.prog 55 #[.slice (some ⟨blk, off, none⟩) d.size cap, .int .i64 a, .int .i64 b, .func (.func 43) #[] #[.pointer (some ⟨B, 0, none⟩)]] w fun e w' => ∃ (p : Nat) (h : Int), e = .returned (.tuple #[.int .i64 p, .int .i64 h]) ∧ a ≤ p ∧ p < b ∧ SC (fun x : It rk => x.1.1) w0 blk off d w' := by
  obtain ⟨l, hl1, hl2⟩ : ∃ l, a + l ≤ b ∧ b ≤ a + l := ⟨b - a, by omega, by omega⟩
  have zl : (b : Int) - (a : Int) = (l : Int) := by omega
  obtain ⟨q, hq1, hq2⟩ : ∃ q, 4 * q ≤ l ∧ l < 4 * q + 4 := ⟨l / 4, by omega, by omega⟩
  have zq : (l : Int) / 4 = (q : Int) := by omega
  have S1 := S.alloc (.cells #[.int .i64 0] 3)
  have B1 : Bx (w.alloc (.cells #[.int .i64 0] 3)) w.heap.size := ⟨0, by simp, by simp⟩
  have hc0 : w0.heap.size ≤ w.heap.size := S.gb.size
  have HS1 := hidden S1
  have HB1 := hidden B1
  have M := hidden (fun i j k W S BX h1 h2 h3 h4 h5 h6 => medianC B blk off cap w0 R w.heap.size hc0 a b i j k d W S BX h1 h2 h3 h4 h5 h6 hb hsz)
  have A := hidden (fun i W S BX h1 h2 => medianAdjacentC B blk off cap w0 R w.heap.size hc0 a b i d W S BX h1 h2 hb hsz)
  clear S1 B1 S
  by_cases h8 : 8 ≤ l
  · have h8z : (8 : Int) ≤ (l : Int) := by omega
    by_cases h50 : 50 ≤ l
    · have h50z : (50 : Int) ≤ (l : Int) := by omega
      go_enter Try.func55, Try.ntmps55
      go_wp2_with fail
      have hA := A.out (a + q) _ HS1.out HB1.out (by omega) (by omega)
      rw [Int.natCast_add] at hA
      refine hA.mono ?_
      rintro e w1 ⟨i1, rfl, q1, q2, S1, B1⟩
      clear hA
      go_wp2_with fail
      have hA := A.out (a + q * 2) _ S1 B1 (by omega) (by omega)
      rw [Int.natCast_add, Int.natCast_mul] at hA
      refine hA.mono ?_
      rintro e w2 ⟨i2, rfl, q3, q4, S2, B2⟩
      clear hA S1 B1
      go_wp2_with fail
      have hA := A.out (a + q * 3) _ S2 B2 (by omega) (by omega)
      rw [Int.natCast_add, Int.natCast_mul] at hA
      refine hA.mono ?_
      rintro e w3 ⟨i3, rfl, q5, q6, S3, B3⟩
      clear hA S2 B2
      go_wp2_with fail
      refine (M.out i1 i2 i3 _ S3 B3 q1 q2 q3 q4 q5 q6).mono ?_
      rintro e w4 ⟨p, rfl, q7, q8, S4, B4⟩
      clear S3 B3 M A HS1 HB1
      obtain ⟨k, c1, c2⟩ := B4
      have HS := hidden S4
      clear S4
      by_cases e0 : k = 0
      · subst e0
        go_wp2
        go_ret2
        exact ⟨p, _, rfl, q7, q8, HS.out⟩
      · have e0b : (k == 0) = false := by rw [beq_eq_false_iff_ne]; exact e0
        by_cases e12 : k = 12
        · subst e12
          go_wp2
          go_ret2
          exact ⟨p, _, rfl, q7, q8, HS.out⟩
        · have e12b : (k == 12) = false := by rw [beq_eq_false_iff_ne]; exact e12
          go_wp2
          go_ret2
          exact ⟨p, _, rfl, q7, q8, HS.out⟩
    · have h50z : ¬ (50 : Int) ≤ (l : Int) := by omega
      go_enter Try.func55, Try.ntmps55
      go_wp2_with fail
      have hA := M.out (a + q) (a + q * 2) (a + q * 3) _ HS1.out HB1.out (by omega) (by omega) (by omega) (by omega) (by omega) (by omega)
      rw [Int.natCast_add, Int.natCast_add, Int.natCast_add, Int.natCast_mul, Int.natCast_mul] at hA
      refine hA.mono ?_
      rintro e w4 ⟨p, rfl, q7, q8, S4, B4⟩
      clear hA M A HS1 HB1
      obtain ⟨k, c1, c2⟩ := B4
      have HS := hidden S4
      clear S4
      by_cases e0 : k = 0
      · subst e0
        go_wp2
        go_ret2
        exact ⟨p, _, rfl, q7, q8, HS.out⟩
      · have e0b : (k == 0) = false := by rw [beq_eq_false_iff_ne]; exact e0
        by_cases e12 : k = 12
        · subst e12
          go_wp2
          go_ret2
          exact ⟨p, _, rfl, q7, q8, HS.out⟩
        · have e12b : (k == 12) = false := by rw [beq_eq_false_iff_ne]; exact e12
          go_wp2
          go_ret2
          exact ⟨p, _, rfl, q7, q8, HS.out⟩
  · have h8z : ¬ (8 : Int) ≤ (l : Int) := by omega
    obtain ⟨p, hp1, hp2⟩ : ∃ p, a + q * 2 ≤ p ∧ p ≤ a + q * 2 := ⟨a + q * 2, by omega, by omega⟩
    have zp : (a : Int) + (q : Int) * 2 = (p : Int) := by omega
    have q7 : a ≤ p := by omega
    have q8 : p < b := by omega
    obtain ⟨k, c1, c2⟩ := HB1.out
    clear M A HB1
    go_enter Try.func55, Try.ntmps55
    go_wp2
    all_goals (go_ret2; exact ⟨p, ⟨_, rfl⟩, q7, q8, HS1.out⟩)

end Go.Proofs.Ytfkhfkbkjiekkaa
