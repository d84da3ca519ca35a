/-
  math/bits.Len at this program, at small numbers: what it returns is at least nothing, and its power of two is at most twice the number.
-/
import Derived.Test.YtfkhfkbkjiekkaaCmp
import Derived.Lib.Strings
import Derived.Lib.Slices
import Derived.Lib.Small
import Derived.Lib.Walk
import Derived.Lib.BitFns
import Derived.Shelf.Sort.So_math_bits_Len64In
namespace Go.Proofs.Ytfkhfkbkjiekkaa
open Go.RowKit

theorem tab_size : Lib.len8tab.size = 256 := by exact Int.ofNat.inj len8tab_size
theorem tab_get (y : Int) (h0 : 0 ≤ y) (h1 : y < 256) (h : y.toNat < Lib.len8tab.size) : ((Lib.len8tab[y.toNat]'h).toNat : Int) = (Lib.bitLen y.toNat : Int) := by
  rw [len8_get y h, Lib.len8_of y h0 (by omega)]

set_option maxHeartbeats 4000000 in
set_option maxRecDepth 100000 in
theorem len64_any (x : Int) (w : World) (h0 : 0 ≤ x) (hx : x < 65536) : Calls Try.prog 61 #[.int .u64 x] w fun e w' => e = .returned (.int .i64 (Lib.bitLen x.toNat)) ∧ w' = w := by
  have h1 : ¬ (4294967296 : Int) ≤ x := by omega
  have h2 : ¬ (65536 : Int) ≤ x := by omega
  have hs := tab_size
  by_cases h3 : 256 ≤ x
  · have hb : x / 256 < (Lib.len8tab.size : Int) := by omega
    have l := Lib.bitLen_le8' (x / 256) (by omega) (by omega)
    have s := Lib.bitLen_shift8 x.toNat (by omega) (by omega)
    have t := tab_get (x / 256) (by omega) (by omega) (by omega)
    have HL := hidden l
    have HS := hidden s
    have HT := hidden t
    clear l s t
    go_enter Try.func61, Try.ntmps61
    go_wp2
    go_ret
    refine ⟨congrArg Ending.returned (congrArg (Value.int IntKind.i64) ?_), rfl⟩
    have l := HL.out
    have s := HS.out
    rw [HT.out, s]
    have e : (x / 256).toNat = x.toNat / 256 := by omega
    rw [e] at l ⊢
    unfold wrap64
    omega
  · have hb : x < (Lib.len8tab.size : Int) := by omega
    have l := Lib.bitLen_le8' x (by omega) (by omega)
    have t := tab_get x (by omega) (by omega) (by omega)
    have HL := hidden l
    have HT := hidden t
    clear l t
    go_enter Try.func61, Try.ntmps61
    go_wp2
    go_ret
    refine ⟨congrArg Ending.returned (congrArg (Value.int IntKind.i64) ?_), rfl⟩
    have l := HL.out
    rw [HT.out]
    unfold wrap64
    omega

set_option maxHeartbeats 1000000 in
theorem len_any (x : Int) (w : World) (h0 : 0 ≤ x) (hx : x < 65536) : Calls Try.prog 48 #[.int .u64 x] w fun e w' => e = .returned (.int .i64 (Lib.bitLen x.toNat)) ∧ w' = w := by
  have h := len64_any x w h0 hx
  go_enter Try.func48, Try.ntmps48
  go_wp2_with (go_at_call 61; refine h.mono ?_; rintro e w' ⟨rfl, rfl⟩)
  go_ret
  exact ⟨rfl, rfl⟩

theorem bitLen_le : ∀ (n x : Nat), x ≤ n → 0 < x → x < 2 ^ 64 → 2 ^ Lib.bitLen x ≤ 2 * x
  | 0, x, h1, h2, _ => by omega
  | n + 1, x, h1, h2, h3 => by
    rw [Lib.bitLen_half x (by omega) h3]
    by_cases h : x / 2 = 0
    · rw [h, show Lib.bitLen 0 = 0 by decide]
      omega
    · have := bitLen_le n (x / 2) (by omega) (by omega) (by omega)
      rw [Nat.add_comm, Nat.pow_succ]
      omega
theorem bitLen_small (x : Nat) (h : x < 65536) : Lib.bitLen x ≤ 16 := by
  by_cases h0 : x = 0
  · subst h0; decide
  · have h1 := bitLen_le x x (Nat.le_refl _) (by omega) (by omega)
    by_cases h2 : Lib.bitLen x ≤ 16
    · exact h2
    · have h3 : 2 ^ 17 ≤ 2 ^ Lib.bitLen x := Nat.pow_le_pow_right (by omega) (by omega)
      omega
end Go.Proofs.Ytfkhfkbkjiekkaa
