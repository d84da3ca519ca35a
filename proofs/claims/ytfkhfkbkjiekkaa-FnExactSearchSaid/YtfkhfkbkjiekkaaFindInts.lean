/-
  Binary search in a sorted list of numbers, and how the reference counts; the walk of FnExactSearch.
-/
import Derived.Test.YtfkhfkbkjiekkaaFind
import Derived.Test.YtfkhfkbkjiekkaaSorted
namespace Go.Proofs.Ytfkhfkbkjiekkaa
open Go.RowKit Go.Sort

set_option maxHeartbeats 400000 in
theorem isNaN2_any (x : Int) (w : World) : Calls Try.prog 45 #[.int .i64 x] w fun e w' => e = .returned (.bool false) ∧ w' = w := by
  go_enter Try.func45, Try.ntmps45
  go_wp2
  go_ret
  exact ⟨ret_bool (by simp), rfl⟩

set_option maxHeartbeats 1000000 in
theorem binSearch_any (p : Option Addr) (cap : Nat) (t : Int) (d : Array Int) (w : World) (hI : Ints w p d) (hsz : d.size < 4611686018427387904)
    (hS : ∀ i j, i ≤ j → j < d.size → d[i]! ≤ d[j]!) :
    Calls Try.prog 37 #[.slice p d.size cap, .int .i64 t] w (FindPost (fun i => d[i]!) d.size t (fun a b => b = a) w) := by
  have HS := hidden hS
  clear hS
  go_enter Try.func37, Try.ntmps37
  go_wp2
  go_loopg [7, 8] d.size (fun g vi vj wr => ∃ i j : Nat, vi = .int .i64 i ∧ vj = .int .i64 j ∧ i ≤ j ∧ j ≤ d.size ∧ j - i ≤ g ∧ wr = w ∧ Hid (∀ k, k < i → d[k]! < t) ∧ Hid (∀ k, j ≤ k → k < d.size → t ≤ d[k]!))
  case atStart => exact ⟨0, d.size, rfl, rfl, Nat.zero_le _, Nat.le_refl _, by omega, rfl, hidden (fun k hk => absurd hk (Nat.not_lt_zero k)), hidden (fun k h1 h2 => absurd h1 (by omega))⟩
  case round =>
    obtain ⟨i, j, rfl, rfl, hij, hj, hg, rfl, H1, H2⟩ := hrel
    by_cases hlt : i < j
    · obtain ⟨h, hh⟩ : ∃ h, (i + j) / 2 = h := ⟨_, rfl⟩
      have hz : ((i : Int) + (j : Int)) / 2 = (h : Int) := by omega
      have h1 : i ≤ h := by omega
      have h2 : h < j := by omega
      obtain ⟨b, off, rfl, hC⟩ := hI.at (i := h) (by omega)
      have l1 := hC h (by omega)
      have hL : ∀ x, d[h]! = x → (x < t → ∀ k, k < h + 1 → d[k]! < t) ∧ (t ≤ x → ∀ k, h ≤ k → k < d.size → t ≤ d[k]!) := fun x hx => by
        subst hx
        refine ⟨fun hlt' k hk => ?_, fun hge k hk hkd => ?_⟩
        · have := HS.out k h (by omega) (by omega); omega
        · have := HS.out h k hk hkd; omega
      have HL := hidden (hL _ rfl)
      clear hL hC
      generalize d[h]! = x at l1 HL
      by_cases hv : x < t
      · go_wp2_with (go_at_call 44; refine (less_any _ _ _).mono ?_; rintro e w2 ⟨rfl, rfl⟩)
        go_roundg (j - (h + 1))
        case measure => omega
        case rel => exact ⟨h + 1, j, by go_num, rfl, by omega, by omega, by omega, rfl, hidden (HL.out.1 hv), H2⟩
      · go_wp2_with (go_at_call 44; refine (less_any _ _ _).mono ?_; rintro e w2 ⟨rfl, rfl⟩)
        go_roundg (h - i)
        case measure => omega
        case rel => exact ⟨i, h, rfl, rfl, by omega, by omega, by omega, rfl, H1, hidden (HL.out.2 (by omega))⟩
    · obtain rfl : i = j := by omega
      have hP : Parts (fun i => d[i]!) d.size t i := ⟨hj, H1.out, H2.out⟩
      have HP := hidden hP
      clear hP
      by_cases hlast : i < d.size
      · obtain ⟨b, off, rfl, hC⟩ := hI.at (i := i) (by omega)
        have l1 := hC i (by omega)
        obtain ⟨x, hx⟩ : ∃ x, d[i]! = x := ⟨_, rfl⟩
        rw [hx] at l1
        have HX := hidden hx
        clear hx hC
        by_cases hv : x = t
        · have hn : (x == t) = true := by rw [beq_iff_eq]; exact hv
          have HV := hidden hv
          clear hv
          go_wp2_with (go_at_call 45; refine (isNaN2_any _ _).mono ?_; rintro e w2 ⟨rfl, rfl⟩)
          go_ret2
          exact ⟨i, true, rfl, HP.out, ⟨fun _ => ⟨hlast, by show d[i]! = t; rw [HX.out, HV.out]⟩, fun _ => rfl⟩, rfl⟩
        · have hn : (x == t) = false := by rw [beq_eq_false_iff_ne]; exact hv
          have HV := hidden hv
          clear hv
          go_wp2_with (go_at_call 45; refine (isNaN2_any _ _).mono ?_; rintro e w2 ⟨rfl, rfl⟩)
          go_ret2
          exact ⟨i, false, rfl, HP.out, ⟨fun e => (by cases e), fun e => absurd e.2 (by show ¬ d[i]! = t; rw [HX.out]; exact HV.out)⟩, rfl⟩
      · go_wp2
        go_ret2
        exact ⟨i, false, rfl, HP.out, ⟨fun e => (by cases e), fun e => absurd e.1 hlast⟩, rfl⟩

set_option maxHeartbeats 1000000 in
theorem placeOf_any (p : Option Addr) (cap : Nat) (t : Int) (d : Array Int) (w : World) (hI : Ints w p d) (hsz : d.size < 4611686018427387904) :
    Calls Try.prog 21 #[.slice p d.size cap, .int .i64 t] w fun e w' =>
      e = .returned (.tuple #[.int .i64 (below (fun i => d[i]!) t d.size : Nat), .bool (among (fun i => d[i]!) t d.size)]) ∧ w' = w := by
  go_enter Try.func21, Try.ntmps21
  go_wp2
  go_loopg [6, 7, 12] d.size (fun g vl vs vi wr => ∃ k : Nat, vl = .int .i64 (below (fun i => d[i]!) t k : Nat) ∧ vs = .bool (among (fun i => d[i]!) t k) ∧ vi = .int .i64 k ∧ k ≤ d.size ∧ d.size - k ≤ g ∧ wr = w)
  case atStart => exact ⟨0, rfl, rfl, rfl, Nat.zero_le _, Nat.le_refl _, rfl⟩
  case round =>
    obtain ⟨k, rfl, rfl, rfl, hk, hg, rfl⟩ := hrel
    by_cases hlt : k < d.size
    · obtain ⟨b, off, rfl, hC⟩ := hI.at hlt
      have l1 := hC k hlt
      have hb := below_le (fun i => d[i]!) t k
      have e1 : below (fun i => d[i]!) t (k + 1) = if d[k]! < t then below (fun i => d[i]!) t k + 1 else below (fun i => d[i]!) t k := rfl
      have e2 : among (fun i => d[i]!) t (k + 1) = (among (fun i => d[i]!) t k || d[k]! == t) := rfl
      have E := hidden (And.intro e1 e2)
      clear e1 e2 hC
      generalize below (fun i => d[i]!) t k = c at hb E ⊢
      generalize among (fun i => d[i]!) t k = s at E ⊢
      generalize d[k]! = r at l1 E
      by_cases hv : r < t
      · have hne : (r == t) = false := by rw [beq_eq_false_iff_ne]; omega
        have HE := hidden hne
        cases s
        · go_wp2
          go_roundg (d.size - (k + 1))
          case measure => omega
          case rel => exact ⟨k + 1, by rw [E.out.1, if_pos hv]; rfl, by rw [E.out.2, HE.out]; rfl, by go_num, by omega, by omega, rfl⟩
        · go_wp2
          go_roundg (d.size - (k + 1))
          case measure => omega
          case rel => exact ⟨k + 1, by rw [E.out.1, if_pos hv]; rfl, by rw [E.out.2, HE.out]; rfl, by go_num, by omega, by omega, rfl⟩
      · obtain ⟨eq, hne⟩ : ∃ eq, (r == t) = eq := ⟨_, rfl⟩
        have HE := hidden hne
        have HV := hidden hv
        cases eq <;> cases s <;>
          (go_wp2
           go_roundg (d.size - (k + 1))
           case measure => omega
           case rel => exact ⟨k + 1, by rw [E.out.1, if_neg (Int.not_lt.2 HV.out)], by rw [E.out.2, HE.out]; rfl, by go_num, by omega, by omega, rfl⟩)
    · obtain rfl : k = d.size := by omega
      go_wp2
      go_ret2
      exact ⟨rfl, rfl⟩

set_option maxHeartbeats 400000 in
theorem implSearch_any (p : Option Addr) (cap : Nat) (t : Int) (d : Array Int) (w : World) (hI : Ints w p d) (hsz : d.size < 4611686018427387904)
    (hS : ∀ i j, i ≤ j → j < d.size → d[i]! ≤ d[j]!) :
    Calls Try.prog 20 #[.slice p d.size cap, .int .i64 t] w (FindPost (fun i => d[i]!) d.size t (fun a b => b = a) w) := by
  have h37 := binSearch_any p cap t d w hI hsz hS
  have HS := hidden hS
  clear hS
  go_enter Try.func20, Try.ntmps20
  go_wp2_with fail
  refine h37.mono ?_
  rintro e w2 ⟨i, ok, rfl, hP, hok, rfl⟩
  have HP := hidden (And.intro hP hok)
  clear hP hok h37
  go_wp2
  go_ret2
  exact ⟨i, ok, rfl, HP.out.1, HP.out.2, rfl⟩

theorem sorted_of_same {d : Array Int} (h : d = (insAll gtInt d.toList).toArray) : ∀ i j, i ≤ j → j < d.size → d[i]! ≤ d[j]! := by
  have ho := insAll_ordered weak_int d.toList
  have hl : d.toList = insAll gtInt d.toList := by conv => lhs; rw [h]
  rw [← hl] at ho
  intro i j hij hj
  by_cases e : i = j
  · subst e; exact Int.le_refl _
  · have := List.pairwise_iff_getElem.1 ho i j (by simp; omega) (by simp; omega) (by omega)
    unfold gtInt at this
    simp at this
    rw [getElem!_pos d i (by omega), getElem!_pos d j (by omega)]
    exact this

set_option maxHeartbeats 1000000 in
theorem lawSearch_any (p : Option Addr) (cap : Nat) (t : Int) (d : Array Int) (w : World) (hI : Ints w p d) :
    Calls Try.prog 6 #[.slice p d.size cap, .int .i64 t] w fun e w' => e = .returned (.bool true) ∧ Below w.heap.size w w' := by
  by_cases h1 : 2147483647 < (d.size : Int)
  · go_enter Try.func6, Try.ntmps6
    go_wp2
    go_ret
    exact ⟨rfl, Below.refl _ _⟩
  · by_cases h2 : 4096 < (d.size : Int)
    · go_enter Try.func6, Try.ntmps6
      go_wp2
      go_ret
      exact ⟨rfl, Below.refl _ _⟩
    · have h17 := sorted_any p cap d w hI (by omega)
      go_enter Try.func6, Try.ntmps6
      go_wp2_with fail
      refine h17.mono ?_
      rintro e w2 ⟨q, c, rfl, hown, hb⟩
      obtain ⟨hl, hq⟩ := ownsRow_ints hown
      have hd2 := hI.below hb
      have c16 := equal_any p q cap c d (insAll gtInt d.toList).toArray w2 hd2 hq (by omega)
      rw [show (insAll gtInt d.toList).toArray.size = d.size by simp [length_insAll]] at c16
      have HS := hidden (fun h => sorted_of_same (d := d) (of_decide_eq_true h))
      clear hown hl hq h17
      generalize decide (d = (insAll gtInt d.toList).toArray) = r at c16 HS
      go_wp2_with fail
      refine c16.mono ?_
      rintro e w3 ⟨rfl, hD⟩
      have hd3 : Ints w3 p d := hd2.below hD.below
      clear c16
      cases r with
      | false =>
        go_wp2
        go_ret
        exact ⟨rfl, hb.trans hD.below⟩
      | true =>
        have hS := HS.out rfl
        have h20 := implSearch_any p cap t d w3 hd3 (by omega) hS
        have h21 := placeOf_any p cap t d w3 hd3 (by omega)
        have HS2 := hidden hS
        have H21 := hidden h21
        clear hS HS h21
        go_wp2_with fail
        refine h20.mono ?_
        rintro e w4 ⟨i, ok, rfl, hP, hok, rfl⟩
        have c21 := H21.out
        rw [below_is hP, ← among_is hP HS2.out hok] at c21
        clear hP hok h20
        go_wp2_with fail
        refine c21.mono ?_
        rintro e w5 ⟨rfl, rfl⟩
        go_wp2
        go_ret
        exact ⟨ret_bool (by simp), hb.trans hD.below⟩

end Go.Proofs.Ytfkhfkbkjiekkaa
