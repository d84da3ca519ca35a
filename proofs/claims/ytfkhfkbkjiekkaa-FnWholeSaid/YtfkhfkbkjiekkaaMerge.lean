/-
  Plain law of the stable sort, without the program: blocks exchanged, rows turned about, two rows in order merged by turning; insertion sort of items with their first places keeps those that are equal as they stood.
-/
import Derived.Sort.LotA
namespace Go.Proofs.Ytfkhfkbkjiekkaa
open Go.Sort

/-- the place whence the element at k comes when the blocks [a, a+n) and [b, b+n) are exchanged -/
def swIdx (a b n k : Nat) : Nat := if a ≤ k ∧ k < a + n then k + (b - a) else if b ≤ k ∧ k < b + n then k - (b - a) else k
/-- the place whence the element at k comes when [lo, m) and [m, hi) change sides -/
def rotIdx (lo m hi k : Nat) : Nat := if k < lo then k else if k < lo + (hi - m) then k + (m - lo) else if k < hi then k - (hi - m) else k

/-- x < y: y is not below x -/
theorem swo_asym {β : Type} {T : β → β → Bool} (hT : SWO T) {x y : β} (h : T x y = true) : T y x = false := by
  cases e : T y x with
  | false => rfl
  | true => have := hT.trans _ _ _ h e; rw [hT.irrefl] at this; cases this
/-- z ≤ x < y: y is not below z -/
theorem swo_le_lt {β : Type} {T : β → β → Bool} (hT : SWO T) {x y z : β} (h : T x y = true) (k : T x z = false) : T y z = false := hT.ntrans _ _ _ (swo_asym hT h) k
/-- x < y ≤ z: z is not below x -/
theorem swo_lt_le' {β : Type} {T : β → β → Bool} (hT : SWO T) {x y z : β} (h : T x y = true) (k : T z y = false) : T z x = false := hT.ntrans _ _ _ k (swo_asym hT h)

section
variable {α : Type} [Inhabited α]

/-- d' holds what d holds, each place k what d has at f k -/
def Via (f : Nat → Nat) (d d' : Array α) : Prop := d'.size = d.size ∧ ∀ k, d'[k]! = d[f k]!

theorem Via.refl (d : Array α) {f : Nat → Nat} (h : ∀ k, f k = k) : Via f d d := ⟨rfl, fun k => by rw [h]⟩
theorem Via.swp {f : Nat → Nat} {d e : Array α} (h : Via f d e) (i j : Nat) (hi : i < d.size) (hj : j < d.size) (hij : i ≠ j) {g : Nat → Nat}
    (gi : g i = f j) (gj : g j = f i) (go : ∀ k, k ≠ i → k ≠ j → g k = f k) : Via g d (swp e i j) := by
  have hi' : i < e.size := by rw [h.1]; exact hi
  have hj' : j < e.size := by rw [h.1]; exact hj
  refine ⟨by rw [size_swp]; exact h.1, fun k => ?_⟩
  by_cases e1 : k = i
  · subst e1; rw [swp_left _ _ _ hi' hij, h.2, gi]
  · by_cases e2 : k = j
    · subst e2; rw [swp_right _ _ _ hj', h.2, gj]
    · rw [swp_other _ _ _ _ e1 e2, h.2, go k e1 e2]
theorem Via.comp {f g : Nat → Nat} {d e c : Array α} (h : Via f d e) (k : Via g e c) : Via (fun i => f (g i)) d c := ⟨k.1.trans h.1, fun i => by rw [k.2, h.2]⟩
theorem Via.congr {f g : Nat → Nat} {d e : Array α} (h : Via f d e) (k : ∀ i, f i = g i) : Via g d e := ⟨h.1, fun i => by rw [h.2, k]⟩

theorem sw_step (a b t : Nat) {d e : Array α} (h : Via (swIdx a b t) d e) (hab : a + t < b) (hb : b + t < d.size) : Via (swIdx a b (t + 1)) d (swp e (a + t) (b + t)) := by
  refine h.swp _ _ (by omega) hb (by omega) ?_ ?_ fun k h1 h2 => ?_ <;> unfold swIdx <;> (repeat' split) <;> omega

theorem rot_step1 (lo m hi : Nat) (h1 : lo < m) (h2 : m < hi) (h3 : hi - m < m - lo) (k : Nat) : swIdx lo m (hi - m) (rotIdx (lo + (hi - m)) m hi k) = rotIdx lo m hi k := by
  unfold swIdx rotIdx; (repeat' split) <;> omega
theorem rot_step2 (lo m hi : Nat) (h1 : lo < m) (h2 : m < hi) (h3 : m - lo < hi - m) (k : Nat) : swIdx lo (hi - (m - lo)) (m - lo) (rotIdx lo m (hi - (m - lo)) k) = rotIdx lo m hi k := by
  unfold swIdx rotIdx; (repeat' split) <;> omega
theorem rot_last (lo m hi : Nat) (h1 : lo < m) (h3 : m - lo = hi - m) (k : Nat) : swIdx lo m (m - lo) k = rotIdx lo m hi k := by
  unfold swIdx rotIdx; (repeat' split) <;> omega
/-- the first one moved up by one more place -/
theorem up_step (a t : Nat) {d e : Array α} (h : Via (rotIdx a (a + 1) (t + 1)) d e) (hat : a ≤ t) (ht : t + 1 < d.size) : Via (rotIdx a (a + 1) (t + 2)) d (swp e t (t + 1)) := by
  refine h.swp _ _ (by omega) ht (by omega) ?_ ?_ fun k h1 h2 => ?_ <;> unfold rotIdx <;> (repeat' split) <;> omega
/-- the last one moved down by one more place -/
theorem down_step (m t : Nat) {d e : Array α} (h : Via (rotIdx (t + 1) m (m + 1)) d e) (ht : t + 1 ≤ m) (hm : m < d.size) : Via (rotIdx t m (m + 1)) d (swp e (t + 1) t) := by
  refine h.swp _ _ (by omega) (by omega) (by omega) ?_ ?_ fun k h1 h2 => ?_ <;> unfold rotIdx <;> (repeat' split) <;> omega

/-- rows turned about are the same elements -/
theorem rot_perm {lo m hi : Nat} {d e : Array α} (h : Via (rotIdx lo m hi) d e) (h1 : lo ≤ m) (h2 : m ≤ hi) (h3 : hi ≤ d.size) : PermIn lo hi d e := by
  refine ⟨h.1, fun i hi' => ?_, ?_⟩
  · rw [h.2]
    have : rotIdx lo m hi i = i := by unfold rotIdx; (repeat' split) <;> omega
    rw [this]
  · rw [extract_toList _ _ _ (by rw [h.1]; exact h3), extract_toList _ _ _ h3]
    have s1 : List.range' lo (hi - lo) = List.range' lo (m - lo) ++ List.range' m (hi - m) := by
      have := List.range'_append_1 (s := lo) (m := m - lo) (n := hi - m)
      rw [show lo + (m - lo) = m by omega, show m - lo + (hi - m) = hi - lo by omega] at this
      exact this.symm
    have s2 : List.range' lo (hi - lo) = List.range' lo (hi - m) ++ List.range' (lo + (hi - m)) (m - lo) := by
      have := List.range'_append_1 (s := lo) (m := hi - m) (n := m - lo)
      rw [show hi - m + (m - lo) = hi - lo by omega] at this
      exact this.symm
    have e1 : (List.range' lo (hi - m)).map (fun i => e[i]!) = (List.range' m (hi - m)).map (fun i => d[i]!) := by
      apply List.ext_getElem (by simp)
      intro k k1 k2
      have hk : k < hi - m := by simpa using k1
      simp only [List.getElem_map, List.getElem_range', Nat.one_mul]
      rw [h.2]
      have : rotIdx lo m hi (lo + k) = m + k := by unfold rotIdx; (repeat' split) <;> omega
      rw [this]
    have e2 : (List.range' (lo + (hi - m)) (m - lo)).map (fun i => e[i]!) = (List.range' lo (m - lo)).map (fun i => d[i]!) := by
      apply List.ext_getElem (by simp)
      intro k k1 k2
      have hk : k < m - lo := by simpa using k1
      simp only [List.getElem_map, List.getElem_range', Nat.one_mul]
      rw [h.2]
      have : rotIdx lo m hi (lo + (hi - m) + k) = lo + k := by unfold rotIdx; (repeat' split) <;> omega
      rw [this]
    conv => lhs; rw [s2, List.map_append, e1, e2]
    conv => rhs; rw [s1, List.map_append]
    exact List.perm_append_comm

theorem rot_none {lo m hi : Nat} (d : Array α) (h : lo = m ∨ hi = m) (h1 : lo ≤ m) (h2 : m ≤ hi) : Via (rotIdx lo m hi) d d := Via.refl d fun k => by unfold rotIdx; (repeat' split) <;> omega

/-- two rows in order, next to one another; across them the one order answers as the other -/
structure Half (lt T : α → α → Bool) (a m b : Nat) (d : Array α) : Prop where
  left : SortedIn T a m d
  right : SortedIn T m b d
  tie : ∀ i j, a ≤ i → i < m → m ≤ j → j < b → lt d[j]! d[i]! = T d[j]! d[i]!

section
variable {lt T : α → α → Bool}
theorem Half.leftNil {a m b : Nat} {d : Array α} (h : Half lt T a m b d) (e : m = a) : SortedIn T a b d := by subst e; exact h.right
theorem Half.rightNil {a m b : Nat} {d : Array α} (h : Half lt T a m b d) (e : m = b) : SortedIn T a b d := by subst e; exact h.left
theorem Half.aside {a m b x y : Nat} {d d' : Array α} (h : Half lt T a m b d) (p : PermIn x y d d') (ham : a ≤ m) (hy : y ≤ a) : Half lt T a m b d' where
  left i j h1 h2 h3 := by rw [p.2.1 i (by omega), p.2.1 j (by omega)]; exact h.left i j h1 h2 h3
  right i j h1 h2 h3 := by rw [p.2.1 i (by omega), p.2.1 j (by omega)]; exact h.right i j h1 h2 h3
  tie i j h1 h2 h3 h4 := by rw [p.2.1 i (by omega), p.2.1 j (by omega)]; exact h.tie i j h1 h2 h3 h4

/-- no later one is less than an earlier one or the same -/
theorem SortedIn.le (hT : SWO T) {a b : Nat} {d : Array α} (h : SortedIn T a b d) (i j : Nat) (h1 : a ≤ i) (h2 : i ≤ j) (h3 : j < b) : T d[j]! d[i]! = false := by
  by_cases e : i = j
  · subst e; exact hT.irrefl _
  · exact h i j h1 (by omega) h3
theorem mergeA (hT : SWO T) {a b i : Nat} {d e : Array α} (hr : SortedIn T (a + 1) b d) (h1 : a + 1 ≤ i) (h2 : i ≤ b) (hb : b ≤ d.size)
    (lo : i = a + 1 ∨ T d[i - 1]! d[a]! = true) (hi : i = b ∨ T d[i]! d[a]! = false) (V : Via (rotIdx a (a + 1) i) d e) : PermIn a b d e ∧ SortedIn T a b e := by
  refine ⟨permIn_mono _ _ a i a b (Nat.le_refl _) h2 hb (rot_perm V (by omega) h1 (by omega)), fun p q hp hpq hq => ?_⟩
  rw [V.2, V.2]
  have e1 : ∀ k, a ≤ k → k + 1 < i → rotIdx a (a + 1) i k = k + 1 := fun k _ _ => by unfold rotIdx; (repeat' split) <;> omega
  have e2 : rotIdx a (a + 1) i (i - 1) = a := by unfold rotIdx; (repeat' split) <;> omega
  have e3 : ∀ k, i ≤ k → rotIdx a (a + 1) i k = k := fun k _ => by unfold rotIdx; (repeat' split) <;> omega
  by_cases c1 : q + 1 < i
  · rw [e1 p hp (by omega), e1 q (by omega) c1]; exact hr _ _ (by omega) (by omega) (by omega)
  · by_cases c2 : q + 1 = i
    · obtain rfl : q = i - 1 := by omega
      rw [e2, e1 p hp (by omega)]
      have hl : T d[i - 1]! d[a]! = true := lo.resolve_left (by omega)
      exact swo_le_lt hT hl (SortedIn.le hT hr (p + 1) (i - 1) (by omega) (by omega) (by omega))
    · rw [e3 q (by omega)]
      by_cases c3 : p + 1 < i
      · rw [e1 p hp c3]; exact hr _ _ (by omega) (by omega) hq
      · by_cases c4 : p + 1 = i
        · obtain rfl : p = i - 1 := by omega
          rw [e2]
          exact hT.ntrans _ _ _ (SortedIn.le hT hr i q (by omega) (by omega) hq) (hi.resolve_left (by omega))
        · rw [e3 p (by omega)]; exact hr _ _ (by omega) hpq hq

theorem mergeB (hT : SWO T) {a m i : Nat} {d e : Array α} (hl : SortedIn T a m d) (h1 : a ≤ i) (h2 : i ≤ m) (hb : m + 1 ≤ d.size)
    (lo : i = a ∨ T d[m]! d[i - 1]! = false) (hi : i = m ∨ T d[m]! d[i]! = true) (V : Via (rotIdx i m (m + 1)) d e) : PermIn a (m + 1) d e ∧ SortedIn T a (m + 1) e := by
  refine ⟨permIn_mono _ _ i (m + 1) a (m + 1) h1 (Nat.le_refl _) hb (rot_perm V h2 (by omega) hb), fun p q hp hpq hq => ?_⟩
  rw [V.2, V.2]
  have e1 : ∀ k, k < i → rotIdx i m (m + 1) k = k := fun k _ => by unfold rotIdx; (repeat' split) <;> omega
  have e2 : rotIdx i m (m + 1) i = m := by unfold rotIdx; (repeat' split) <;> omega
  have e3 : ∀ k, i < k → k < m + 1 → rotIdx i m (m + 1) k = k - 1 := fun k _ _ => by unfold rotIdx; (repeat' split) <;> omega
  by_cases c1 : q < i
  · rw [e1 p (by omega), e1 q c1]; exact hl _ _ hp hpq (by omega)
  · by_cases c2 : q = i
    · subst c2
      rw [e2, e1 p hpq]
      exact hT.ntrans _ _ _ (lo.resolve_left (by omega)) (SortedIn.le hT hl p (q - 1) hp (by omega) (by omega))
    · rw [e3 q (by omega) hq]
      by_cases c3 : p < i
      · rw [e1 p c3]; exact SortedIn.le hT hl _ _ hp (by omega) (by omega)
      · by_cases c4 : p = i
        · subst c4
          rw [e2]
          exact swo_lt_le' hT (hi.resolve_left (by omega)) (SortedIn.le hT hl p (q - 1) hp (by omega) (by omega))
        · rw [e3 p (by omega) (by omega)]; exact SortedIn.le hT hl _ _ (by omega) (by omega) (by omega)

/-- behind the turn: two halves, each of two rows in order, and nothing in the upper one below anything in the lower one -/
theorem mergeC (hT : SWO T) {a s m e b mid : Nat} {d d1 : Array α} (H : Half lt T a m b d) (h1 : a ≤ s) (h2 : s ≤ m) (h3 : m ≤ e) (h4 : e ≤ b) (hmid : mid = s + (e - m))
    (cross : s = m ∨ e = m ∨ T d[e - 1]! d[s]! = true) (low : s = a ∨ e = b ∨ T d[e]! d[s - 1]! = false) (V : Via (rotIdx s m e) d d1) :
    Half lt T a s mid d1 ∧ Half lt T mid e b d1 ∧ (∀ x y, a ≤ x → x < mid → mid ≤ y → y < b → T d1[y]! d1[x]! = false) := by
  have e1 : ∀ k, k < s → rotIdx s m e k = k := fun k _ => by unfold rotIdx; (repeat' split) <;> omega
  have e2 : ∀ k, s ≤ k → k < mid → rotIdx s m e k = k + (m - s) := fun k _ _ => by unfold rotIdx; (repeat' split) <;> omega
  have e3 : ∀ k, mid ≤ k → k < e → rotIdx s m e k = k - (e - m) := fun k _ _ => by unfold rotIdx; (repeat' split) <;> omega
  have e4 : ∀ k, e ≤ k → rotIdx s m e k = k := fun k _ => by unfold rotIdx; (repeat' split) <;> omega
  have L := H.left
  have R := H.right
  refine ⟨⟨fun p q k1 k2 k3 => ?_, fun p q k1 k2 k3 => ?_, fun i j k1 k2 k3 k4 => ?_⟩, ⟨fun p q k1 k2 k3 => ?_, fun p q k1 k2 k3 => ?_, fun i j k1 k2 k3 k4 => ?_⟩, fun x y k1 k2 k3 k4 => ?_⟩ <;> rw [V.2, V.2]
  · rw [e1 p (by omega), e1 q (by omega)]; exact L _ _ k1 k2 (by omega)
  · rw [e2 p k1 (by omega), e2 q (by omega) k3]; exact R _ _ (by omega) (by omega) (by omega)
  · rw [e1 i k2, e2 j k3 k4]; exact H.tie _ _ k1 (by omega) (by omega) (by omega)
  · rw [e3 p k1 (by omega), e3 q (by omega) k3]; exact L _ _ (by omega) (by omega) (by omega)
  · rw [e4 p k1, e4 q (by omega)]; exact R _ _ (by omega) k2 k3
  · rw [e3 i k1 k2, e4 j k3]; exact H.tie _ _ (by omega) (by omega) (by omega) k4
  · by_cases c1 : x < s
    · rw [e1 x c1]
      by_cases c2 : y < e
      · rw [e3 y k3 c2]; exact SortedIn.le hT L _ _ k1 (by omega) (by omega)
      · rw [e4 y (by omega)]
        have hl : T d[e]! d[s - 1]! = false := (low.resolve_left (by omega)).resolve_left (by omega)
        exact hT.ntrans _ _ _ (SortedIn.le hT R e y h3 (by omega) k4) (hT.ntrans _ _ _ hl (SortedIn.le hT L x (s - 1) k1 (by omega) (by omega)))
    · rw [e2 x (by omega) k2]
      by_cases c2 : y < e
      · rw [e3 y k3 c2]
        have hl : T d[e - 1]! d[s]! = true := (cross.resolve_left (by omega)).resolve_left (by omega)
        exact hT.ntrans _ _ _ (SortedIn.le hT L s (y - (e - m)) h1 (by omega) (by omega)) (swo_le_lt hT hl (SortedIn.le hT R (x + (m - s)) (e - 1) (by omega) (by omega) (by omega)))
      · rw [e4 y (by omega)]; exact SortedIn.le hT R _ _ (by omega) (by omega) k4

theorem mergeEnd {a mid b : Nat} {d1 d2 d3 : Array α} (hab : a ≤ mid) (hmb : mid ≤ b) (hb : b ≤ d1.size) (C : ∀ x y, a ≤ x → x < mid → mid ≤ y → y < b → T d1[y]! d1[x]! = false)
    (p1 : PermIn a mid d1 d2) (o1 : SortedIn T a mid d2) (p2 : PermIn mid b d2 d3) (o2 : SortedIn T mid b d3) : PermIn a b d1 d3 ∧ SortedIn T a b d3 := by
  have hb2 : b ≤ d2.size := by rw [p1.1]; exact hb
  refine ⟨permIn_trans _ _ _ _ _ (permIn_mono _ _ a mid a b (Nat.le_refl _) hmb hb p1) (permIn_mono _ _ mid b a b hab (Nat.le_refl _) hb2 p2), fun p q h1 h2 h3 => ?_⟩
  by_cases c1 : q < mid
  · rw [p2.2.1 q (by omega), p2.2.1 p (by omega)]; exact o1 _ _ h1 h2 c1
  · by_cases c2 : mid ≤ p
    · exact o2 _ _ c2 h2 h3
    · rw [p2.2.1 p (by omega)]
      have s1 : ∀ x, a ≤ x → x < mid → ∀ y, mid ≤ y → y < b → T d1[y]! d2[x]! = false := fun x hx1 hx2 y hy1 hy2 =>
        permIn_all d1 d2 a mid (fun v => T d1[y]! v = false) (by omega) p1 (fun i i1 i2 => C i y i1 i2 hy1 hy2) x hx1 hx2
      exact permIn_all d2 d3 mid b (fun v => T v d2[p]! = false) hb2 p2 (fun y y1 y2 => by rw [p1.2.1 y (by omega)]; exact s1 p h1 (by omega) y y1 y2) q (by omega) h3
end
end

end Go.Proofs.Ytfkhfkbkjiekkaa
