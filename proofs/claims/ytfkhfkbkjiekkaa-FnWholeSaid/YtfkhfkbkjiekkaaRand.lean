/-
  The random numbers of the pattern breaker: some number each time; the power of two above a length.
-/
import Derived.Test.YtfkhfkbkjiekkaaBits
import Derived.Laws.BitsAllLaws
import Derived.BigRegion
namespace Go.Proofs.Ytfkhfkbkjiekkaa
open Go.RowKit Go.Sort

/-- w' is w after draws and stores into the box c alone -/
def Only (c : Nat) (w w' : World) : Prop := ∀ Q : World → Prop, Q w → (∀ W, Q W → Q W.drew) → (∀ W v, Q W → Q (W.setCell ⟨c, 0, none⟩ v)) → Q w'
/-- the box holds some number of 64 bits -/
def Rx (W : World) (c : Nat) : Prop := ∃ r : Nat, r < 18446744073709551616 ∧ W.cell? ⟨c, 0, none⟩ = some (.int .u64 r) ∧ W.frozen? ⟨c, 0, none⟩ = false

theorem xor_some (x y : Int) (h1 : 0 ≤ x) (h2 : x < 18446744073709551616) (h3 : 0 ≤ y) (h4 : y < 18446744073709551616) : ∃ r : Nat, r < 18446744073709551616 ∧ bits .xor .u64 x y = (r : Int) :=
  ⟨x.toNat ^^^ y.toNat, Nat.xor_lt_two_pow (n := 64) (by omega) (by omega), u64_xor x y h1 h2 h3 h4⟩
theorem wrap_u64_range (x : Int) : 0 ≤ IntKind.u64.wrap x ∧ IntKind.u64.wrap x < 18446744073709551616 := by
  rw [IntKind.wrap_u64]; omega

theorem Rx.store {c : Nat} {w : World} (h : Rx w c) (r : Nat) (hr : r < 18446744073709551616) : Rx ((w.setCell ⟨c, 0, none⟩ (.int .u64 r)).drew) c := by
  obtain ⟨r0, _, h1, h2⟩ := h
  exact ⟨r, hr, World.cell?_setCell_same _ _ _ h1, by show (w.setCell _ _).frozen? _ = false; rw [World.frozen?_setCell]; exact h2⟩
theorem Only.store {c : Nat} {w w' : World} (h : Only c w w') (v : Value) : Only c w ((w'.setCell ⟨c, 0, none⟩ v).drew) := fun Q q hd hs => hd _ (hs _ _ (h Q q hd hs))

set_option maxHeartbeats 1000000 in
theorem next_any (c : Nat) (w : World) (h : Rx w c) : Calls Try.prog 73 #[.pointer (some ⟨c, 0, none⟩)] w fun e w' => ∃ r : Nat, e = .returned (.int .u64 r) ∧ r < 18446744073709551616 ∧ Rx w' c ∧ Only c w w' := by
  have hb : Hid (Rx w c) := h
  obtain ⟨r, hr, c1, c2⟩ := h
  have O0 : Hid (Only c w w) := fun Q q _ _ => q
  obtain ⟨r1, hr1, e1⟩ := xor_some (r : Int) (IntKind.u64.wrap ((r : Int) * 8192)) (by omega) (by omega) (wrap_u64_range _).1 (wrap_u64_range _).2
  go_enter Try.func73, Try.ntmps73
  go_wp2_with fail
  go_region
  have B1 := hidden (hb.out.store r1 hr1)
  have O1 := hidden (O0.out.store (.int .u64 r1))
  clear c1 c2 e1 hr hb O0
  generalize (World.drew _) = w1 at B1 O1 ⊢
  obtain ⟨s1, hs1, c1, c2⟩ : ∃ s : Nat, s < 18446744073709551616 ∧ w1.cell? ⟨c, 0, none⟩ = some (.int .u64 s) ∧ w1.frozen? ⟨c, 0, none⟩ = false := B1.out
  obtain ⟨r2, hr2, e2⟩ := xor_some (s1 : Int) ((s1 : Int) / 128) (by omega) (by omega) (by omega) (by omega)
  go_wp2_with fail
  go_region
  have B2 := hidden (B1.out.store r2 hr2)
  have O2 := hidden (O1.out.store (.int .u64 r2))
  clear c1 c2 e2 hr1 hs1 B1 O1
  generalize (World.drew _) = w2 at B2 O2 ⊢
  obtain ⟨s2, hs2, c1, c2⟩ : ∃ s : Nat, s < 18446744073709551616 ∧ w2.cell? ⟨c, 0, none⟩ = some (.int .u64 s) ∧ w2.frozen? ⟨c, 0, none⟩ = false := B2.out
  obtain ⟨r3, hr3, e3⟩ := xor_some (s2 : Int) (IntKind.u64.wrap ((s2 : Int) * 131072)) (by omega) (by omega) (wrap_u64_range _).1 (wrap_u64_range _).2
  go_wp2_with fail
  go_region
  have B3 := hidden (B2.out.store r3 hr3)
  have O3 := hidden (O2.out.store (.int .u64 r3))
  clear c1 c2 e3 hr2 hs2 B2 O2
  generalize (World.drew _) = w3 at B3 O3 ⊢
  obtain ⟨s3, hs3, c1, c2⟩ : ∃ s : Nat, s < 18446744073709551616 ∧ w3.cell? ⟨c, 0, none⟩ = some (.int .u64 s) ∧ w3.frozen? ⟨c, 0, none⟩ = false := B3.out
  go_wp2
  go_ret
  exact ⟨s3, rfl, hs3, B3.out, O3.out⟩

set_option maxHeartbeats 1000000 in
theorem nextPower_any (l : Nat) (w : World) (hl : l < 65536) : Calls Try.prog 72 #[.int .i64 l] w fun e w' => ∃ m : Nat, e = .returned (.int .u64 m) ∧ 1 ≤ m ∧ (0 < l → m ≤ 2 * l) ∧ m ≤ 65536 ∧ w' = w := by
  have h := fun W => len_any (l : Int) W (by omega) (by omega)
  rw [Int.toNat_natCast] at h
  have h2 := bitLen_small l hl
  have h3 := bitLen_le l l (Nat.le_refl _)
  generalize Lib.bitLen l = n at h h2 h3
  go_enter Try.func72, Try.ntmps72
  go_wp2_with (go_at_call 48; refine (h _).mono ?_; rintro e w' ⟨rfl, rfl⟩)
  have hp : IntKind.u64.wrap (2 ^ n) = ((2 ^ n : Nat) : Int) := by
    rw [IntKind.wrap_u64]
    have h5 : (2 : Nat) ^ n ≤ 2 ^ 16 := Nat.pow_le_pow_right (by omega) h2
    have h6 : ((2 : Int) ^ n) = ((2 ^ n : Nat) : Int) := by simp
    rw [h6]
    generalize (2 : Nat) ^ n = q at h5
    omega
  have h5 : (2 : Nat) ^ n ≤ 2 ^ 16 := Nat.pow_le_pow_right (by omega) h2
  rw [hp]
  go_ret
  exact ⟨2 ^ n, rfl, Nat.one_le_two_pow, fun h => h3 h (by omega), h5, rfl⟩
end Go.Proofs.Ytfkhfkbkjiekkaa
