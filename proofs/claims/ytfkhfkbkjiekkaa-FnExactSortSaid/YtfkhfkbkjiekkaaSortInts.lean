/-
  impl.Sort, walked; and 'FnExactSort'.
-/
import Derived.Test.YtfkhfkbkjiekkaaPdqO
import Derived.Test.YtfkhfkbkjiekkaaBits
import Derived.Test.YtfkhfkbkjiekkaaCopy
import Derived.Test.YtfkhfkbkjiekkaaInts
import Derived.Test.YtfkhfkbkjiekkaaLawStable
namespace Go.Proofs.Ytfkhfkbkjiekkaa
open Go.RowKit Go.Sort

set_option maxHeartbeats 1000000 in
theorem sortInts_any (blk off cap : Nat) (w0 : World) (d : Array Int) (w : World) (S : SO w0 blk off d w) (hsz : d.size ≤ 4096) :
    Calls Try.prog 42 #[.slice (some ⟨blk, off, none⟩) d.size cap] w fun e w' => e = .returned (.tuple #[]) ∧ ∃ d' : Array Int, PermIn 0 d.size d d' ∧ SortedIn ltInt 0 d.size d' ∧ SO w0 blk off d' w' := by
  have hl := fun W => len_any (d.size : Int) W (by omega) (by omega)
  rw [Int.toNat_natCast] at hl
  have hb := bitLen_small d.size (by omega)
  generalize Lib.bitLen d.size = n at hl hb
  have hc := pdqsortO blk off cap w0 swo_ltInt d.size 0 d.size n d w S (by omega) (Nat.zero_le _) (Nat.le_refl _) (by omega) (by omega) (Or.inl rfl)
  have HL := hidden hl
  have HC := hidden hc
  clear hl hc S
  go_enter Try.func42, Try.ntmps42
  go_wp2_with fail
  refine (HL.out _).mono ?_
  rintro e w1 ⟨rfl, rfl⟩
  go_wp2_with fail
  refine HC.out.mono ?_
  rintro e w2 ⟨rfl, d', hp, ho, S2⟩
  have HP := hidden hp
  have HO := hidden ho
  clear hp ho HL HC
  go_wp2
  go_end0
  exact ⟨rfl, d', HP.out, HO.out, S2⟩

theorem SO.ofOwn {w : World} {base g c : Nat} {d : Array Int} (h : w.ownsRow base 3 1 (.slice (some ⟨g, 0, none⟩) d.size c) d.size (d.toList.map (Value.int .i64))) : SO w g 0 d w := by
  have hg : g < w.heap.size := (h.lt g rfl).2
  refine ⟨grownBy_refl _ _, hg, fun i hi => ?_, fun i hi => ?_⟩
  · rw [Nat.zero_add, h.cellAt _ (by omega)]
    simp [hi]
  · exact h.frozenAt _

theorem SO.ints {w0 W : World} {blk off : Nat} {d : Array Int} (h : SO w0 blk off d W) {l : List Int} (e : d.toList = l) : Ints W (some ⟨blk, off, none⟩) l.toArray := by
  subst e
  refine Or.inr ⟨blk, off, rfl, fun i hi => ?_⟩
  have hi' : i < d.size := by simpa using hi
  have := h.c0 i hi'
  simpa using this

theorem ints_law {d e : Array Int} (hp : PermIn 0 d.size d e) (ho : SortedIn ltInt 0 d.size e) : e.toList = insAll gtInt d.toList := by
  have hs : SortedIn ltInt 0 e.size e := by rw [hp.1]; exact ho
  exact ints_unique (ordered_of_sorted hs) (insAll_ordered weak_int _) ((toList_perm hp).trans (insAll_perm gtInt _).symm)

theorem ints_cells {w : World} {b off : Nat} {d : Array Int} (hC : ∀ i, i < d.size → w.cell? ⟨b, off + i, none⟩ = some (.int .i64 d[i]!)) :
    ∀ j u, (d.toList.map (Value.int .i64))[j]? = some u → w.cell? ((⟨b, off, none⟩ : Addr).add j) = some u := by
  intro j u hj
  rw [List.getElem?_map] at hj
  obtain ⟨x, hx, rfl⟩ := Option.map_eq_some_iff.1 hj
  obtain ⟨hl, rfl⟩ := List.getElem?_eq_some_iff.1 hx
  have hj' : j < d.size := by simpa using hl
  rw [addr_add, hC j hj', getElem!_pos d j hj', Array.getElem_toList]

set_option maxHeartbeats 2000000 in
theorem implSort_any (p : Option Addr) (cap : Nat) (d : Array Int) (w : World) (hI : Ints w p d) (hsz : d.size ≤ 4096) :
    Calls Try.prog 30 #[.slice p d.size cap] w fun e w' => ∃ r c, e = .returned (.slice r d.size c) ∧ Ints w' r (insAll gtInt d.toList).toArray ∧ Below w.heap.size w w' := by
  obtain ⟨i0, hi, hz0, hz1, hz2⟩ := info_parts info3
  have hown0 : (w.alloc (.cells #[] 3)).ownsRow w.heap.size 3 1 (.slice (some ⟨w.heap.size, 0, none⟩) 0 0) 0 [] := World.ownsRow_lit w #[] 0 (Nat.le_refl _) (Nat.zero_le _) rfl
  have hB0 : Below w.heap.size w (w.alloc (.cells #[] 3)) := (Below.refl _ _).alloc (Nat.le_refl _) _
  have HO := hidden (fun (g c : Nat) (w1 : World) (h : w1.ownsRow w.heap.size 3 1 (.slice (some ⟨g, 0, none⟩) d.size c) d.size (d.toList.map (Value.int .i64))) => sortInts_any g 0 c w1 d w1 (SO.ofOwn h) hsz)
  cases p with
  | none =>
    have h0 : d.size = 0 := by
      rcases hI with h | ⟨_, _, h, _⟩
      · exact h
      · cases h
    have hd : d = #[] := Array.eq_empty_of_size_eq_zero h0
    subst hd
    have hc := HO.out w.heap.size 0 _ hown0
    have HC := hidden hc
    clear hc HO
    go_enter Try.func30, Try.ntmps30
    go_wp2_with (at_builtin; refine wpList_append_nothing rfl _ _ 23 rfl w.heap.size 3 i0 1 cap Try.underlying23 hi _ _ _ rfl hown0 rfl ?_)
    go_wp2_with fail
    refine HC.out.mono ?_
    rintro e w3 ⟨rfl, d', hp, ho, S3⟩
    have HB := hidden (hB0.grown S3.gb hB0.size (fun k hk => by cases hk; exact Nat.le_refl _))
    have HI := hidden (S3.ints (ints_law hp ho))
    clear hp ho S3 HC
    go_wp2
    go_ret
    exact ⟨_, _, rfl, HI.out, HB.out⟩
  | some ad =>
    have hnews : ∀ j u, (d.toList.map (Value.int .i64))[j]? = some u → (w.alloc (.cells #[] 3)).cell? (ad.add j) = some u := fun j u hu => by
      rcases hI with h | ⟨b, off, hb, hC⟩
      · have : (d.toList.map (Value.int .i64)).length = 0 := by simpa using h
        rw [List.eq_nil_of_length_eq_zero this] at hu
        cases hu
      · cases hb
        have := ints_cells hC j u hu
        rw [addr_add] at this ⊢
        exact ((Gr.refl w).alloc _).kept this
    have hlen : (d.toList.map (Value.int .i64)).length = d.size * 1 := by simp
    have hone : ∀ u ∈ d.toList.map (Value.int .i64), u.oneCell' = true := by
      intro u hu
      simp at hu
      obtain ⟨_, _, rfl⟩ := hu
      rfl
    have HN := hidden hnews
    clear hnews
    generalize hL : d.toList.map (Value.int .i64) = L at *
    go_enter Try.func30, Try.ntmps30
    go_wp2_with (at_builtin; refine wpList_append_own _ rfl _ _ 23 rfl w.heap.size 3 i0 (.int .i64 0) 1 8 Try.underlying23 hi hz0 hz1 hz2 rfl (by decide) _ _ _ rfl hown0 ad d.size cap L rfl hlen HN.out hone ?c3 ?c4 ?c5 ?_)
    case c3 => unfold maxLen; omega
    case c4 => omega
    case c5 => exact hB0.size
    intro v' w1 hown' hgrow hnil
    have hB1 : Below w.heap.size w w1 := hB0.grown hgrow hB0.size (fun k hk => (hown0.lt k hk).1)
    have hv : ∃ g c, v' = .slice (some ⟨g, 0, none⟩) d.size c ∧ w.heap.size ≤ g := by
      rcases hown'.2 with ⟨h, _⟩ | ⟨g, c, cur, rfl, hg, _⟩
      · exact absurd h hnil
      · exact ⟨g, c, rfl, hg⟩
    obtain ⟨g, c, rfl, hg⟩ := hv
    have HC := hidden (HO.out g c w1 hown')
    clear hown0 hown' hgrow HO hB0 hnil
    go_wp2_with fail
    refine HC.out.mono ?_
    rintro e w3 ⟨rfl, d', hp, ho, S3⟩
    have HB := hidden (hB1.grown S3.gb hB1.size (fun k hk => by cases hk; exact hg))
    have HI := hidden (S3.ints (ints_law hp ho))
    clear hp ho S3 HC
    go_wp2
    go_ret
    exact ⟨_, _, rfl, HI.out, HB.out⟩

set_option maxHeartbeats 1000000 in
theorem lawSort_any (p : Option Addr) (cap : Nat) (d : Array Int) (w : World) (hI : Ints w p d) :
    Calls Try.prog 10 #[.slice p d.size cap] w fun e w' => e = .returned (.bool true) ∧ Below w.heap.size w w' := by
  by_cases h1 : 2147483647 < (d.size : Int)
  · go_enter Try.func10, Try.ntmps10
    go_wp2
    go_ret
    exact ⟨rfl, Below.refl _ _⟩
  · by_cases h2 : 4096 < (d.size : Int)
    · go_enter Try.func10, Try.ntmps10
      go_wp2
      go_ret
      exact ⟨rfl, Below.refl _ _⟩
    · have c30 := implSort_any p cap d w hI (by omega)
      have c17 := fun W (b : Below w.heap.size w W) => sorted_any p cap d W (hI.below b) (by omega)
      have C := hidden (And.intro c30 c17)
      clear c30 c17
      go_enter Try.func10, Try.ntmps10
      go_wp2_with fail
      refine C.out.1.mono ?_
      rintro e w2 ⟨r2, k2, rfl, i2, b2⟩
      go_wp2_with fail
      refine (C.out.2 _ b2).mono ?_
      rintro e w3 ⟨r3, k3, rfl, o3, b3⟩
      have i3 := (ownsRow_ints o3).2
      have hs : (insAll gtInt d.toList).toArray.size = d.size := by rw [List.size_toArray, length_insAll, Array.length_toList]
      have c16 := equal_any r2 r3 k2 k3 _ _ w3 (i2.below b3) i3 (by rw [hs]; omega)
      rw [hs] at c16
      have C3 := hidden c16
      clear c16 i2 i3 C o3 hs
      go_wp2_with fail
      refine C3.out.mono ?_
      rintro e w4 ⟨rfl, b4⟩
      go_wp2
      go_ret
      exact ⟨ret_bool (by simp), (b2.trans (below_less b3 b2.size)).trans b4.below⟩

end Go.Proofs.Ytfkhfkbkjiekkaa
