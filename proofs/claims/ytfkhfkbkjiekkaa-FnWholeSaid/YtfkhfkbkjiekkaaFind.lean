/-
  Binary search: in items in order a rank, in a sorted list a number is found at its first place, or where it would stand; and how the reference counts.
-/
import Derived.Test.YtfkhfkbkjiekkaaLawInOrder
import Derived.Test.YtfkhfkbkjiekkaaInts
namespace Go.Proofs.Ytfkhfkbkjiekkaa
open Go.RowKit Go.Sort

set_option maxHeartbeats 1000000 in
/-- The closure of 'SearchFunc'. -/
theorem searchClosure_any (x : Int × Int) (t : Int) (B : Nat) (rk : Array Int) (w : World) (hR : Ranks w B rk) (p1 : 0 ≤ x.1) (q1 : x.1 < (rk.size : Int)) :
    Calls Try.prog 35 #[.agg #[.int .i64 x.1, .int .i64 x.2], .int .i64 t, .pointer (some ⟨B, 0, none⟩)] w fun e w' => e = .returned (.int .i64 (cmpI (rankOf rk x) t)) ∧ Gr w w' := by
  unfold rankOf
  obtain ⟨p, c, hbox, hc0⟩ := hR
  obtain ⟨rb, ro, rfl, hc⟩ := hc0.at (i := x.1.toNat) (by omega)
  have hB : B < w.heap.size := World.block_lt_of_cell? w _ hbox
  have e1 := hc x.1.toNat (by omega)
  have hrb : rb < w.heap.size := World.block_lt_of_cell? w _ e1
  clear hc hc0
  generalize rk[x.1.toNat]! = r1 at e1 ⊢
  generalize rk.size = n at hbox q1
  obtain ⟨k1, m1⟩ := x
  simp only at e1 p1 q1 ⊢
  go_enter Try.func35, Try.ntmps35
  go_wp2_with (go_at_call 36; refine (compared_any _ _ _).mono ?_; rintro e w' ⟨rfl, rfl⟩)
  go_ret
  exact ⟨rfl, (Gr.refl _).alloc _⟩

/-- the first i places are below t, the others are not -/
def Parts (f : Nat → Int) (n : Nat) (t : Int) (i : Nat) : Prop := i ≤ n ∧ (∀ j, j < i → f j < t) ∧ ∀ j, i ≤ j → j < n → t ≤ f j

/-- what a search tells -/
def FindPost (f : Nat → Int) (n : Nat) (t : Int) (R : World → World → Prop) (w : World) (e : Ending) (w' : World) : Prop :=
  ∃ i ok, e = .returned (.tuple #[.int .i64 (i : Nat), .bool ok]) ∧ Parts f n t i ∧ (ok = true ↔ i < n ∧ f i = t) ∧ R w w'

set_option maxHeartbeats 1000000 in
theorem binSearchFunc_any (p : Option Addr) (cap B : Nat) (t : Int) (d : Array (Int × Int)) (rk : Array Int) (w : World) (hI : Items w p d) (hR : Ranks w B rk) (hK : Keyed d rk.size) (hsz : d.size < 4611686018427387904)
    (hS : ∀ i j, i ≤ j → j < d.size → rankOf rk d[i]! ≤ rankOf rk d[j]!) :
    Calls Try.prog 34 #[.slice p d.size cap, .int .i64 t, .func (.func 35) #[] #[.pointer (some ⟨B, 0, none⟩)]] w (FindPost (fun i => rankOf rk d[i]!) d.size t Gr w) := by
  have HS := hidden hS
  clear hS
  go_enter Try.func34, Try.ntmps34
  go_wp2
  go_loopg [9, 10] d.size (fun g vi vj wr => ∃ i j : Nat, vi = .int .i64 i ∧ vj = .int .i64 j ∧ i ≤ j ∧ j ≤ d.size ∧ j - i ≤ g ∧ Gr w wr ∧ Hid (∀ k, k < i → rankOf rk d[k]! < t) ∧ Hid (∀ k, j ≤ k → k < d.size → t ≤ rankOf rk d[k]!))
  case atStart => exact ⟨0, d.size, rfl, rfl, Nat.zero_le _, Nat.le_refl _, by omega, Gr.refl _, hidden (fun k hk => absurd hk (Nat.not_lt_zero k)), hidden (fun k h1 h2 => absurd h1 (by omega))⟩
  case round =>
    obtain ⟨i, j, rfl, rfl, hij, hj, hg, hG, H1, H2⟩ := hrel
    by_cases hlt : i < j
    · obtain ⟨h, hh⟩ : ∃ h, (i + j) / 2 = h := ⟨_, rfl⟩
      have hz : ((i : Int) + (j : Int)) / 2 = (h : Int) := by omega
      have h1 : i ≤ h := by omega
      have h2 : h < j := by omega
      obtain ⟨b, off, rfl, hC⟩ := hI.at (i := h) (by omega)
      have l1 := hG.kept (hC h (by omega)).1
      have l2 := hG.kept (hC h (by omega)).2
      have k1 := hK h (by omega)
      have hL : ∀ x, d[h]! = x → (rankOf rk x < t → ∀ k, k < h + 1 → rankOf rk d[k]! < t) ∧ (t ≤ rankOf rk x → ∀ k, h ≤ k → k < d.size → t ≤ rankOf rk d[k]!) := fun x hx => by
        subst hx
        refine ⟨fun hlt' k hk => ?_, fun hge k hk hkd => ?_⟩
        · have := HS.out k h (by omega) (by omega); omega
        · have := HS.out h k hk hkd; omega
      have HL := hidden (hL _ rfl)
      clear hL hC
      generalize d[h]! = x at l1 l2 k1 HL
      have hc := fun W (g : Gr wr W) => searchClosure_any x t B rk W (hR.gr (hG.trans g)) k1.1 k1.2
      by_cases hv : rankOf rk x < t
      · have hn := (cmpI_neg (rankOf rk x) t).2 hv
        go_wp2_with (go_at_call 35; refine (hc _ (Gr.refl _)).mono ?_; rintro e w2 ⟨rfl, hg2⟩)
        go_roundg (j - (h + 1))
        case measure => omega
        case rel => exact ⟨h + 1, j, by go_num, rfl, by omega, by omega, by omega, hG.trans hg2, hidden (HL.out.1 hv), H2⟩
      · have hn : ¬ cmpI (rankOf rk x) t < 0 := fun e => hv ((cmpI_neg _ _).1 e)
        go_wp2_with (go_at_call 35; refine (hc _ (Gr.refl _)).mono ?_; rintro e w2 ⟨rfl, hg2⟩)
        go_roundg (h - i)
        case measure => omega
        case rel => exact ⟨i, h, rfl, rfl, by omega, by omega, by omega, hG.trans hg2, H1, hidden (HL.out.2 (by omega))⟩
    · obtain rfl : i = j := by omega
      by_cases hlast : i < d.size
      · obtain ⟨b, off, rfl, hC⟩ := hI.at (i := i) (by omega)
        have l1 := hG.kept (hC i (by omega)).1
        have l2 := hG.kept (hC i (by omega)).2
        have k1 := hK i (by omega)
        have hP : Parts (fun i => rankOf rk d[i]!) d.size t i := ⟨hj, H1.out, H2.out⟩
        obtain ⟨x, hx⟩ : ∃ x, d[i]! = x := ⟨_, rfl⟩
        rw [hx] at l1 l2 k1
        have HX := hidden hx
        have HP := hidden hP
        clear hx hP hC
        have hc := fun W (g : Gr wr W) => searchClosure_any x t B rk W (hR.gr (hG.trans g)) k1.1 k1.2
        by_cases hv : rankOf rk x = t
        · have hn := (cmpI_zero (rankOf rk x) t).2 hv
          have HV := hidden hv
          clear hv
          go_wp2_with (go_at_call 35; refine (hc _ (Gr.refl _)).mono ?_; rintro e w2 ⟨rfl, hg2⟩)
          go_ret2
          exact ⟨i, true, rfl, HP.out, ⟨fun _ => ⟨hlast, by show rankOf rk d[i]! = t; rw [HX.out, HV.out]⟩, fun _ => rfl⟩, hG.trans hg2⟩
        · have hn : (cmpI (rankOf rk x) t == 0) = false := by
            rw [beq_eq_false_iff_ne]
            exact fun e => hv ((cmpI_zero _ _).1 e)
          have HV := hidden hv
          clear hv
          go_wp2_with (go_at_call 35; refine (hc _ (Gr.refl _)).mono ?_; rintro e w2 ⟨rfl, hg2⟩)
          go_ret2
          exact ⟨i, false, rfl, HP.out, ⟨fun e => (by cases e), fun e => absurd e.2 (by show ¬ rankOf rk d[i]! = t; rw [HX.out]; exact HV.out)⟩, hG.trans hg2⟩
      · have hP : Parts (fun i => rankOf rk d[i]!) d.size t i := ⟨hj, H1.out, H2.out⟩
        have HP := hidden hP
        clear hP
        go_wp2
        go_ret2
        exact ⟨i, false, rfl, HP.out, ⟨fun e => (by cases e), fun e => absurd e.1 hlast⟩, hG⟩

/-- how many of the first k are below t, and whether one is t -/
def below (f : Nat → Int) (t : Int) : Nat → Nat
  | 0 => 0
  | k + 1 => if f k < t then below f t k + 1 else below f t k
def among (f : Nat → Int) (t : Int) : Nat → Bool
  | 0 => false
  | k + 1 => among f t k || f k == t

theorem below_le (f : Nat → Int) (t : Int) : ∀ k, below f t k ≤ k
  | 0 => Nat.le_refl _
  | k + 1 => by
    have := below_le f t k
    rw [below]
    split <;> omega

set_option maxHeartbeats 1000000 in
theorem place_any (p q : Option Addr) (cap cap' : Nat) (t : Int) (d : Array (Int × Int)) (rk : Array Int) (w : World) (hI : Items w p d) (hR : Ints w q rk) (hK : Keyed d rk.size) (hsz : d.size < 4611686018427387904) :
    Calls Try.prog 19 #[.slice p d.size cap, .slice q rk.size cap', .int .i64 t] w fun e w' =>
      e = .returned (.tuple #[.int .i64 (below (fun i => rankOf rk d[i]!) t d.size : Nat), .bool (among (fun i => rankOf rk d[i]!) t d.size)]) ∧ Gr w w' := by
  go_enter Try.func19, Try.ntmps19
  go_wp2
  go_loopg [8, 9, 14] d.size (fun g vl vs vi wr => ∃ k : Nat, vl = .int .i64 (below (fun i => rankOf rk d[i]!) t k : Nat) ∧ vs = .bool (among (fun i => rankOf rk d[i]!) t k) ∧ vi = .int .i64 k ∧ k ≤ d.size ∧ d.size - k ≤ g ∧ Gr w wr)
  case atStart => exact ⟨0, rfl, rfl, rfl, Nat.zero_le _, Nat.le_refl _, Gr.refl _⟩
  case round =>
    obtain ⟨k, rfl, rfl, rfl, hk, hg, hG⟩ := hrel
    by_cases hlt : k < d.size
    · obtain ⟨b, off, rfl, hC⟩ := hI.at hlt
      have k1 := hK k hlt
      obtain ⟨rb, ro, rfl, hRC⟩ := hR.at (i := d[k]!.1.toNat) (by omega)
      have l1 := hG.kept (hC k hlt).1
      have l2 := hG.kept (hC k hlt).2
      have m1 := hG.kept (hRC d[k]!.1.toNat (by omega))
      have hb := below_le (fun i => rankOf rk d[i]!) t k
      have e1 : below (fun i => rankOf rk d[i]!) t (k + 1) = if rankOf rk d[k]! < t then below (fun i => rankOf rk d[i]!) t k + 1 else below (fun i => rankOf rk d[i]!) t k := rfl
      have e2 : among (fun i => rankOf rk d[i]!) t (k + 1) = (among (fun i => rankOf rk d[i]!) t k || rankOf rk d[k]! == t) := rfl
      change _ = some (Value.int .i64 (rankOf rk d[k]!)) at m1
      have E := hidden (And.intro e1 e2)
      clear e1 e2 hC hRC
      generalize below (fun i => rankOf rk d[i]!) t k = c at hb E ⊢
      generalize among (fun i => rankOf rk d[i]!) t k = s at E ⊢
      generalize d[k]! = x at l1 l2 m1 k1 E
      generalize rankOf rk x = r at m1 E
      obtain ⟨kx, mx⟩ := x
      obtain ⟨k1a, k1b⟩ := k1
      simp only at l1 l2 m1 k1a k1b
      have hrb : rb < wr.heap.size := World.block_lt_of_cell? wr _ m1
      by_cases hv : r < t
      · have hne : (r == t) = false := by rw [beq_eq_false_iff_ne]; omega
        have HE := hidden hne
        cases s
        · go_wp2
          go_roundg (d.size - (k + 1))
          case measure => omega
          case rel => exact ⟨k + 1, by rw [E.out.1, if_pos hv]; rfl, by rw [E.out.2, HE.out]; rfl, by go_num, by omega, by omega, hG.alloc _⟩
        · go_wp2
          go_roundg (d.size - (k + 1))
          case measure => omega
          case rel => exact ⟨k + 1, by rw [E.out.1, if_pos hv]; rfl, by rw [E.out.2, HE.out]; rfl, by go_num, by omega, by omega, hG.alloc _⟩
      · by_cases hq : r = t
        · have hne : (r == t) = true := by rw [beq_iff_eq]; exact hq
          have HE := hidden hne
          have HV := hidden hv
          clear hq
          cases s
          · go_wp2
            go_roundg (d.size - (k + 1))
            case measure => omega
            case rel => exact ⟨k + 1, by rw [E.out.1, if_neg (Int.not_lt.2 HV.out)], by rw [E.out.2, HE.out]; rfl, by go_num, by omega, by omega, hG.alloc _⟩
          · go_wp2
            go_roundg (d.size - (k + 1))
            case measure => omega
            case rel => exact ⟨k + 1, by rw [E.out.1, if_neg (Int.not_lt.2 HV.out)], by rw [E.out.2, HE.out]; rfl, by go_num, by omega, by omega, hG.alloc _⟩
        · have hne : (r == t) = false := by rw [beq_eq_false_iff_ne]; exact hq
          have HE := hidden hne
          have HV := hidden hv
          clear hq
          cases s
          · go_wp2
            go_roundg (d.size - (k + 1))
            case measure => omega
            case rel => exact ⟨k + 1, by rw [E.out.1, if_neg (Int.not_lt.2 HV.out)], by rw [E.out.2, HE.out]; rfl, by go_num, by omega, by omega, hG.alloc _⟩
          · go_wp2
            go_roundg (d.size - (k + 1))
            case measure => omega
            case rel => exact ⟨k + 1, by rw [E.out.1, if_neg (Int.not_lt.2 HV.out)], by rw [E.out.2, HE.out]; rfl, by go_num, by omega, by omega, hG.alloc _⟩
    · obtain rfl : k = d.size := by omega
      go_wp2
      go_ret2
      exact ⟨rfl, hG⟩

theorem below_parts {f : Nat → Int} {n : Nat} {t : Int} {i : Nat} (h : Parts f n t i) : ∀ k, k ≤ n → below f t k = if k ≤ i then k else i
  | 0, _ => by simp [below]
  | k + 1, hk => by
    rw [below, below_parts h k (by omega)]
    by_cases hki : k < i
    · rw [if_pos (h.2.1 k hki), if_pos (by omega), if_pos (by omega)]
    · have := h.2.2 k (by omega) (by omega)
      rw [if_neg (by omega)]
      by_cases hki' : k = i
      · subst hki'; rw [if_pos (Nat.le_refl _), if_neg (by omega)]
      · rw [if_neg (by omega), if_neg (by omega)]
theorem below_is {f : Nat → Int} {n : Nat} {t : Int} {i : Nat} (h : Parts f n t i) : below f t n = i := by
  rw [below_parts h n (Nat.le_refl _)]
  have := h.1
  split <;> omega
theorem among_iff (f : Nat → Int) (t : Int) : ∀ k, among f t k = true ↔ ∃ i, i < k ∧ f i = t
  | 0 => by simp [among]
  | k + 1 => by
    rw [among, Bool.or_eq_true, among_iff f t k, beq_iff_eq]
    constructor
    · rintro (⟨i, hi, h⟩ | h)
      · exact ⟨i, by omega, h⟩
      · exact ⟨k, by omega, h⟩
    · rintro ⟨i, hi, h⟩
      by_cases hik : i = k
      · subst hik; exact Or.inr h
      · exact Or.inl ⟨i, by omega, h⟩
theorem among_is {f : Nat → Int} {n : Nat} {t : Int} {i : Nat} (h : Parts f n t i) (hS : ∀ i j, i ≤ j → j < n → f i ≤ f j) {ok : Bool} (ho : ok = true ↔ i < n ∧ f i = t) : ok = among f t n := by
  rw [Bool.eq_iff_iff, ho, among_iff]
  constructor
  · exact fun ⟨h1, h2⟩ => ⟨i, h1, h2⟩
  · rintro ⟨j, hj, hje⟩
    have h1 : i ≤ j := by
      rcases Nat.lt_or_ge j i with h' | h'
      · have := h.2.1 j h'; omega
      · exact h'
    have h2 := hS i j h1 hj
    have h3 := h.2.2 i (Nat.le_refl _) (by omega)
    exact ⟨by omega, by omega⟩

theorem upOk_sorted (rk : Array Int) (d : Array (Int × Int)) (h : upOk rk d 1 (d.size - 1) = true) : ∀ i j, i ≤ j → j < d.size → rankOf rk d[i]! ≤ rankOf rk d[j]! := by
  have hs : ∀ i, i < d.size - 1 → ¬ rankOf rk d[i + 1]! < rankOf rk d[i]! := by
    have := (upOk_iff rk d (d.size - 1) 0).1 h
    intro i hi
    have := this i hi
    simpa using this
  have step : ∀ k i, i + k < d.size → rankOf rk d[i]! ≤ rankOf rk d[i + k]! := by
    intro k
    induction k with
    | zero => intro i _; exact Int.le_refl _
    | succ k ih =>
      intro i hi
      have h1 := ih i (by omega)
      have h2 := hs (i + k) (by omega)
      rw [show i + (k + 1) = i + k + 1 by omega]
      omega
  intro i j hij hj
  have := step (j - i) i (by omega)
  rwa [show i + (j - i) = j by omega] at this

set_option maxHeartbeats 1000000 in
theorem implSearchFunc_any (p q : Option Addr) (cap cap' : Nat) (t : Int) (d : Array (Int × Int)) (rk : Array Int) (w : World) (hI : Items w p d) (hR : Ints w q rk) (hK : Keyed d rk.size) (hsz : d.size < 4611686018427387904)
    (hS : ∀ i j, i ≤ j → j < d.size → rankOf rk d[i]! ≤ rankOf rk d[j]!) :
    Calls Try.prog 18 #[.slice p d.size cap, .slice q rk.size cap', .int .i64 t] w (FindPost (fun i => rankOf rk d[i]!) d.size t Gr w) := by
  have h34 := binSearchFunc_any p cap w.heap.size t d rk (w.alloc (.cells #[.slice q rk.size cap'] 23)) (hI.gr ((Gr.refl _).alloc _)) (ranks_boxed hR cap') hK hsz hS
  have HS := hidden hS
  clear hS hR
  go_enter Try.func18, Try.ntmps18
  go_wp2_with fail
  refine h34.mono ?_
  rintro e w2 ⟨i, ok, rfl, hP, hok, hg⟩
  have HP := hidden (And.intro hP hok)
  clear hP hok h34
  go_wp2
  go_ret2
  exact ⟨i, ok, rfl, HP.out.1, HP.out.2, ((Gr.refl _).alloc _).trans hg⟩

set_option maxHeartbeats 1000000 in
theorem lawSearchFunc_any (p q : Option Addr) (cap cap' : Nat) (t : Int) (d : Array (Int × Int)) (rk : Array Int) (w : World) (hI : Items w p d) (hR : Ints w q rk) :
    Calls Try.prog 5 #[.slice p d.size cap, .slice q rk.size cap', .int .i64 t] w fun e w' => e = .returned (.bool true) ∧ Gr w w' := by
  by_cases h1 : 2147483647 < (d.size : Int)
  · go_enter Try.func5, Try.ntmps5
    go_wp2
    go_ret
    exact ⟨rfl, Gr.refl _⟩
  · by_cases h2 : 2147483647 < (rk.size : Int)
    · go_enter Try.func5, Try.ntmps5
      go_wp2
      go_ret
      exact ⟨rfl, Gr.refl _⟩
    · have hw := well_any p q cap cap' d rk.size w hI (by omega) (by omega)
      go_enter Try.func5, Try.ntmps5
      go_wp2_with fail
      refine hw.mono ?_
      rintro e w1 ⟨ok, rfl, hok, hg⟩
      cases ok with
      | false =>
        go_wp2
        go_ret
        exact ⟨rfl, hg⟩
      | true =>
        have hk := hok.1 rfl
        have h14 := inOrder_any p q cap cap' d rk w1 (hI.gr hg) (hR.gr hg) hk.1 (by omega)
        have HU := hidden (upOk_sorted rk d)
        clear hok hw
        generalize upOk rk d 1 (d.size - 1) = u at h14 HU
        go_wp2_with fail
        refine h14.mono ?_
        rintro e w2 ⟨rfl, hD⟩
        have hg2 := hg.trans hD.gr
        cases u with
        | false =>
          go_wp2
          go_ret
          exact ⟨rfl, hg2⟩
        | true =>
          have hS := HU.out rfl
          have h18 := implSearchFunc_any p q cap cap' t d rk w2 (hI.gr hg2) (hR.gr hg2) hk.1 (by omega) hS
          have h19 := fun w3 (g : Gr w2 w3) => place_any p q cap cap' t d rk w3 ((hI.gr hg2).gr g) ((hR.gr hg2).gr g) hk.1 (by omega)
          have HS := hidden hS
          have H19 := hidden h19
          clear hS h19 h14 HU
          go_wp2_with fail
          refine h18.mono ?_
          rintro e w3 ⟨i, ok, rfl, hP, hok, hg3⟩
          have c19 := H19.out _ hg3
          rw [below_is hP, ← among_is hP HS.out hok] at c19
          clear hP hok h18
          go_wp2_with fail
          refine c19.mono ?_
          rintro e w4 ⟨rfl, hg4⟩
          go_wp2
          go_ret
          exact ⟨ret_bool (by simp), (hg2.trans hg3).trans hg4⟩

end Go.Proofs.Ytfkhfkbkjiekkaa
