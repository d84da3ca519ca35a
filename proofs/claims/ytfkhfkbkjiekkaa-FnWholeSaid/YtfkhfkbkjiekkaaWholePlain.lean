/-
  Plain law for 'FnWhole', without the program: the first of the items laid in is the least, the last of items in order is as high as the greatest; how many are below a rank does not hang on the order.
-/
import Derived.Test.YtfkhfkbkjiekkaaLeast
import Derived.Test.YtfkhfkbkjiekkaaFind
import Derived.Test.YtfkhfkbkjiekkaaTags
import Derived.Test.YtfkhfkbkjiekkaaLawSorted
namespace Go.Proofs.Ytfkhfkbkjiekkaa
open Go.RowKit

section
variable {rk : Array Int}
theorem take_get {d : Array (Int × Int)} {k : Nat} (h : k < d.size) : d.toList.take (k + 1) = d.toList.take k ++ [d[k]!] := by
  rw [List.take_succ_eq_append_getElem (by simpa using h), getElem!_pos d k h]; rfl

theorem below_count (d : Array (Int × Int)) (t : Int) : ∀ k, k ≤ d.size → below (fun i => rankOf rk d[i]!) t k = (d.toList.take k).countP (fun y => decide (rankOf rk y < t))
  | 0, _ => rfl
  | k + 1, h => by
    rw [below, take_get (by omega), List.countP_append, below_count d t k (by omega)]
    by_cases e : rankOf rk d[k]! < t
    · rw [if_pos e]; simp [e]
    · rw [if_neg e]; simp [e]
theorem among_any (d : Array (Int × Int)) (t : Int) : ∀ k, k ≤ d.size → among (fun i => rankOf rk d[i]!) t k = (d.toList.take k).any (fun y => rankOf rk y == t)
  | 0, _ => rfl
  | k + 1, h => by
    rw [among, take_get (by omega), List.any_append, among_any d t k (by omega)]
    simp
theorem below_perm {l : List (Int × Int)} {d : Array (Int × Int)} (hp : l.Perm d.toList) (t : Int) : below (fun i => rankOf rk l.toArray[i]!) t d.size = below (fun i => rankOf rk d[i]!) t d.size := by
  have hs : l.toArray.size = d.size := by have := hp.length_eq; simpa using this
  rw [below_count d t d.size (Nat.le_refl _), below_count l.toArray t d.size (by omega), List.take_of_length_le (by simp; have := hp.length_eq; simp at this; omega), List.take_of_length_le (by simp)]
  exact hp.countP_eq _
theorem among_perm {l : List (Int × Int)} {d : Array (Int × Int)} (hp : l.Perm d.toList) (t : Int) : among (fun i => rankOf rk l.toArray[i]!) t d.size = among (fun i => rankOf rk d[i]!) t d.size := by
  have hs : l.toArray.size = d.size := by have := hp.length_eq; simpa using this
  rw [among_any d t d.size (Nat.le_refl _), among_any l.toArray t d.size (by omega), List.take_of_length_le (by simp; have := hp.length_eq; simp at this; omega), List.take_of_length_le (by simp)]
  rw [Bool.eq_iff_iff, List.any_eq_true, List.any_eq_true]
  exact ⟨fun ⟨x, h1, h2⟩ => ⟨x, hp.mem_iff.1 h1, h2⟩, fun ⟨x, h1, h2⟩ => ⟨x, hp.mem_iff.2 h1, h2⟩⟩

theorem sorted_rank {l : List (Int × Int)} (h : Ordered (gtR rk) l) : ∀ i j, i ≤ j → j < l.toArray.size → rankOf rk l.toArray[i]! ≤ rankOf rk l.toArray[j]! := upOk_sorted rk l.toArray (ordered_rank h)
theorem down_rank {l : List (Int × Int)} (h : Ordered (gtR rk) l) : downOk rk l.toArray (l.toArray.size - 1) = true := by
  refine (downOk_iff rk l.toArray _).2 fun i hi => ?_
  have := sorted_rank h i (i + 1) (by omega) (by omega)
  omega

/-- laying one more in: the head -/
theorem insIn_head {L : List (Int × Int)} (hL : Ordered (gtR rk) L) (x y : Int × Int) (h : L[0]? = some y) : (insIn (gtR rk) L x)[0]? = some (if lower (rankOf rk x) (rankOf rk y) then x else y) := by
  have hlen : 0 < L.length := (List.getElem?_eq_some_iff.1 h).1
  have hy : L[0] = y := (List.getElem?_eq_some_iff.1 h).2
  have hp := insPos_le (gtR rk) L x L.length
  by_cases h0 : insPos (gtR rk) L x L.length = 0
  · have hm : y ∈ L.drop (insPos (gtR rk) L x L.length) := by rw [h0, List.drop_zero, ← hy]; exact List.getElem_mem _
    have := insPos_above (gtR rk) L x hm
    unfold gtR at this
    unfold insIn lower
    rw [h0]
    simp at this
    simp [this]
  · have hm : y ∈ L.take (insPos (gtR rk) L x L.length) := by
      rw [← hy]
      exact List.mem_iff_getElem.2 ⟨0, by rw [List.length_take]; omega, by simp⟩
    have := insPos_below (weak_gtR rk) hL x hm
    unfold gtR at this
    simp at this
    have hn : ¬ rankOf rk x < rankOf rk y := by omega
    unfold insIn lower
    rw [List.getElem?_append_left (by rw [List.length_take]; omega), List.getElem?_take, if_pos (by omega), h]
    simp [hn]
theorem head_least (d : Array (Int × Int)) : ∀ k, k < d.size → (insAll (gtR rk) (d.toList.take (k + 1)))[0]? = some (bestOf rk lower d (k + 1))
  | 0, h => by
    have e : d.toList.take 1 = [d[0]!] := by have := take_get (d := d) (k := 0) h; simpa using this
    rw [show (0 : Nat) + 1 = 1 from rfl, e, bestOf, bestOf]
    simp [insAll, insIn, insPos, lower]
  | k + 1, h => by
    rw [take_get h, insAll_snoc, insIn_head (insAll_ordered (weak_gtR rk) _) _ _ (head_least d k (by omega))]; rfl
theorem stable_head (d : Array (Int × Int)) (h : 0 < d.size) : (insAll (gtR rk) d.toList).toArray[0]! = bestOf rk lower d d.size := by
  have h1 := head_least (rk := rk) d (d.size - 1) (by omega)
  rw [show d.size - 1 + 1 = d.size by omega, List.take_of_length_le (by simp)] at h1
  obtain ⟨h2, h3⟩ := List.getElem?_eq_some_iff.1 h1
  rw [getElem!_pos _ 0 (by simpa using h2)]
  simpa using h3

theorem best_high (d : Array (Int × Int)) : ∀ k, ∀ j, j < k → rankOf rk d[j]! ≤ rankOf rk (bestOf rk higher d k)
  | 0, j, h => by omega
  | k + 1, j, h => by
    rw [bestOf]
    by_cases e : rankOf rk (bestOf rk higher d k) < rankOf rk d[k]!
    · rw [if_pos (show higher _ _ = true from decide_eq_true e)]
      by_cases hj : j = k
      · subst hj; omega
      · have := best_high d k j (by omega); omega
    · rw [if_neg (show ¬ higher _ _ = true from fun h => e (of_decide_eq_true h))]
      by_cases hj : j = k
      · subst hj; omega
      · exact best_high d k j (by omega)
theorem last_high {l : List (Int × Int)} {d : Array (Int × Int)} (hp : l.Perm d.toList) (ho : Ordered (gtR rk) l) (h0 : 0 < d.size) : rankOf rk (bestOf rk higher d d.size) = rankOf rk l.toArray[d.size - 1]! := by
  have hs : l.toArray.size = d.size := by have := hp.length_eq; simpa using this
  have hl : l.length = d.size := by simpa using hs
  obtain ⟨i, hi, e⟩ := bestOf_mem rk higher d d.size (Nat.le_refl _) h0
  have hm : d[i]! ∈ l := hp.mem_iff.2 (by rw [getElem!_pos d i hi]; simp)
  obtain ⟨j, hj, e2⟩ := List.mem_iff_getElem.1 hm
  have h1 := sorted_rank ho j (d.size - 1) (by omega) (by omega)
  rw [getElem!_pos _ j (by simpa using hj)] at h1
  have hm2 : l.toArray[d.size - 1]! ∈ d.toList := hp.mem_iff.1 (by rw [getElem!_pos _ _ (by omega)]; simp)
  obtain ⟨m, hm3, e3⟩ := List.mem_iff_getElem.1 hm2
  have hmd : m < d.size := by simpa using hm3
  have h2 := best_high (rk := rk) d d.size m hmd
  rw [getElem!_pos d m hmd] at h2
  simp only [Array.getElem_toList] at e3
  simp only [List.getElem_toArray] at h1
  rw [e2, ← e] at h1
  rw [e3] at h2
  omega
end

end Go.Proofs.Ytfkhfkbkjiekkaa
