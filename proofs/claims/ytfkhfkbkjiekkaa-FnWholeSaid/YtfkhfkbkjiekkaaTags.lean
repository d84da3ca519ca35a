/-
  Plain law, without the program: items with the places at which they stood first; in order by rank and place, they are the items laid in one by one by rank.
-/
import Derived.Test.YtfkhfkbkjiekkaaKit
import Derived.Test.YtfkhfkbkjiekkaaPlain
import Derived.Sort.Lot0
namespace Go.Proofs.Ytfkhfkbkjiekkaa
open Go.Sort

/-- the order by rank, and where the ranks are one by the first place -/
def ltT (rk : Array Int) (x y : It rk) : Bool := decide (rankOf rk x.1.1 < rankOf rk y.1.1 ∨ (rankOf rk x.1.1 = rankOf rk y.1.1 ∧ x.1.2 < y.1.2))
/-- 'greater', by rank -/
def gtR (rk : Array Int) (x y : Int × Int) : Bool := decide (rankOf rk y < rankOf rk x)

theorem swo_ltR (rk : Array Int) : SWO (ltR rk) where
  irrefl x := by unfold ltR; simp
  trans x y z h1 h2 := by unfold ltR at *; simp at *; omega
  ntrans x y z h1 h2 := by unfold ltR at *; simp at *; omega
theorem swo_ltT (rk : Array Int) : SWO (ltT rk) where
  irrefl x := by unfold ltT; simp
  trans x y z h1 h2 := by unfold ltT at *; simp at *; omega
  ntrans x y z h1 h2 := by unfold ltT at *; simp at *; omega
theorem weak_gtR (rk : Array Int) : Weak (gtR rk) where
  trans a b c h1 h2 := by unfold gtR at *; simp at *; omega
  asym a b h := by unfold gtR at *; simp at *; omega

theorem ltR_of_tag {rk : Array Int} {x y : It rk} (h : x.1.2 < y.1.2) : ltR rk y x = ltT rk y x := by
  unfold ltR ltT
  rw [decide_eq_decide]
  omega

/-- the items with their places -/
def tagged {rk : Array Int} {d : Array (Int × Int)} (hK : Keyed d rk.size) : Array (It rk) := Array.ofFn (n := d.size) fun i => ⟨(d[i.1]!, i.1), hK i.1 i.2⟩

section
variable {rk : Array Int} {d : Array (Int × Int)} (hK : Keyed d rk.size)
theorem size_tagged : (tagged hK).size = d.size := by simp [tagged]
theorem getElem_tagged (i : Nat) (hi : i < (tagged hK).size) : (tagged hK)[i] = ⟨(d[i]!, i), hK i (by rw [size_tagged] at hi; exact hi)⟩ := by
  have h : i < d.size := by rw [size_tagged] at hi; exact hi
  simp [tagged, getElem!_pos d i h]
theorem get_tagged [Inhabited (It rk)] (i : Nat) (hi : i < d.size) : (tagged hK)[i]! = ⟨(d[i]!, i), hK i hi⟩ := by
  rw [getElem!_pos _ i (by rw [size_tagged]; exact hi), getElem_tagged]
theorem map_tagged : (tagged hK).toList.map (fun x => x.1.1) = d.toList := by
  apply List.ext_getElem (by simp [size_tagged])
  intro i h1 h2
  have hi : i < d.size := by simpa using h2
  simp [getElem_tagged, getElem!_pos d i hi]
theorem asc_tagged : (tagged hK).toList.Pairwise fun x y => x.1.2 < y.1.2 := by
  rw [List.pairwise_iff_getElem]
  intro i j h1 h2 hij
  simp only [Array.getElem_toList, getElem_tagged]
  exact hij
theorem tag_inj {x y : It rk} (hx : x ∈ (tagged hK).toList) (hy : y ∈ (tagged hK).toList) (e : x.1.2 = y.1.2) : x = y := by
  obtain ⟨i, hi, rfl⟩ := List.mem_iff_getElem.1 hx
  obtain ⟨j, hj, rfl⟩ := List.mem_iff_getElem.1 hy
  simp only [Array.getElem_toList, getElem_tagged] at e
  subst e
  rfl
end

theorem insPos_map {α β : Type} (gt : β → β → Bool) (f : α → β) (L : List α) (x : α) : ∀ k, insPos gt (L.map f) (f x) k = insPos (fun a b => gt (f a) (f b)) L x k
  | 0 => rfl
  | k + 1 => by
    rw [insPos, insPos, List.getElem?_map]
    cases L[k]? with
    | none => rfl
    | some y => simp only [Option.map_some, insPos_map gt f L x k]
theorem foldl_map {α β : Type} (gt : β → β → Bool) (f : α → β) : ∀ (l L : List α), (l.map f).foldl (insIn gt) (L.map f) = (l.foldl (insIn fun a b => gt (f a) (f b)) L).map f
  | [], L => rfl
  | x :: l, L => by
    rw [List.map_cons, List.foldl_cons, List.foldl_cons, ← foldl_map gt f l]
    congr 1
    unfold insIn
    rw [List.length_map, insPos_map]
    simp
theorem insAll_map {α β : Type} (gt : β → β → Bool) (f : α → β) (l : List α) : insAll gt (l.map f) = (insAll (fun a b => gt (f a) (f b)) l).map f := foldl_map gt f l []

theorem insPos_congr {α : Type} (g1 g2 : α → α → Bool) (L : List α) (x : α) (h : ∀ y ∈ L, g1 y x = g2 y x) : ∀ k, insPos g1 L x k = insPos g2 L x k
  | 0 => rfl
  | k + 1 => by
    rw [insPos, insPos]
    cases hy : L[k]? with
    | none => rfl
    | some y => simp only [h y (List.mem_of_getElem? hy), insPos_congr g1 g2 L x h k]
theorem foldl_congr_on {α : Type} (g1 g2 : α → α → Bool) : ∀ (l L : List α), (∀ y ∈ L, ∀ x ∈ l, g1 y x = g2 y x) → (l.Pairwise fun y x => g1 y x = g2 y x) → l.foldl (insIn g1) L = l.foldl (insIn g2) L
  | [], L, _, _ => rfl
  | x :: l, L, h, hp => by
    have e : insIn g1 L x = insIn g2 L x := by
      unfold insIn
      rw [insPos_congr g1 g2 L x (fun y hy => h y hy x (by simp))]
    rw [List.foldl_cons, List.foldl_cons, e]
    refine foldl_congr_on g1 g2 l _ (fun y hy z hz => ?_) hp.of_cons
    rcases List.mem_cons.1 ((insIn_perm g2 L x).mem_iff.1 hy) with rfl | hy
    · exact List.rel_of_pairwise_cons hp hz
    · exact h y hy z (by simp [hz])

theorem weak_of_swo {α : Type} {lt : α → α → Bool} (h : SWO lt) : Weak fun a b => lt b a where
  trans a b c h1 h2 := h.ntrans c b a h2 h1
  asym a b h1 := by
    show lt a b = false
    cases e : lt a b with
    | false => rfl
    | true => have := h.trans _ _ _ e h1; rw [h.irrefl] at this; cases this

theorem ordered_of_sorted {α : Type} [Inhabited α] {lt : α → α → Bool} {e : Array α} (h : SortedIn lt 0 e.size e) : Ordered (fun a b => lt b a) e.toList := by
  unfold Ordered
  rw [List.pairwise_iff_getElem]
  intro i j h1 h2 hij
  have := h i j (Nat.zero_le _) hij (by simpa using h2)
  rwa [getElem!_pos e i (by simpa using h1), getElem!_pos e j (by simpa using h2)] at this

theorem toList_perm {α : Type} [Inhabited α] {d e : Array α} (h : PermIn 0 d.size d e) : e.toList.Perm d.toList := by
  have h2 := h.2.2
  rw [show e.extract 0 d.size = e by rw [← h.1]; exact Array.extract_size, Array.extract_size] at h2
  exact h2

/-- in order by rank and place: the items laid in one by one by rank -/
theorem tags_law {rk : Array Int} {d : Array (Int × Int)} (hK : Keyed d rk.size) [Inhabited (It rk)] {e : Array (It rk)} (hp : PermIn 0 (tagged hK).size (tagged hK) e) (ho : SortedIn (ltT rk) 0 (tagged hK).size e) :
    e.toList.map (fun x => x.1.1) = insAll (gtR rk) d.toList := by
  have e1 : insAll (gtR rk) d.toList = (insAll (fun a b : It rk => gtR rk a.1.1 b.1.1) (tagged hK).toList).map (fun x => x.1.1) := by rw [← insAll_map, map_tagged]
  have e2 : insAll (fun a b : It rk => gtR rk a.1.1 b.1.1) (tagged hK).toList = insAll (fun a b => ltT rk b a) (tagged hK).toList := by
    refine foldl_congr_on _ _ _ [] (fun y hy => by cases hy) ((asc_tagged hK).imp fun {x y} hxy => ?_)
    exact ltR_of_tag hxy
  rw [e1, e2]
  congr 1
  have hpe := toList_perm hp
  have hpi := insAll_perm (fun a b => ltT rk b a) (tagged hK).toList
  refine (hpe.trans hpi.symm).eq_of_pairwise (le := fun a b => ltT rk b a = false) (fun x y hx hy h1 h2 => ?_) (ordered_of_sorted (by rw [hp.1]; exact ho)) (insAll_ordered (weak_of_swo (swo_ltT rk)) _)
  refine tag_inj hK (hpe.mem_iff.1 hx) (hpi.mem_iff.1 hy) ?_
  unfold ltT at h1 h2
  simp at h1 h2
  omega

end Go.Proofs.Ytfkhfkbkjiekkaa
