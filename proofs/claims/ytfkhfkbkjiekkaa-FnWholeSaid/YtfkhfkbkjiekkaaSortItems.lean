/-
  impl.SortFunc, walked.
-/
import Derived.Test.YtfkhfkbkjiekkaaPdqC
import Derived.Test.YtfkhfkbkjiekkaaBits
import Derived.Test.YtfkhfkbkjiekkaaCopy
namespace Go.Proofs.Ytfkhfkbkjiekkaa
open Go.RowKit Go.Sort

set_option maxHeartbeats 1000000 in
theorem sortFuncC {rk : Array Int} [Inhabited (It rk)] (B blk off cap : Nat) (w0 : World) (R : ∀ W, w0.grownBy W (some blk) → Ranks W B rk) (d : Array (It rk)) (w : World) (S : SC (fun x : It rk => x.1.1) w0 blk off d w) (hsz : d.size ≤ 4096) :
    Calls Try.prog 41 #[.slice (some ⟨blk, off, none⟩) d.size cap, .func (.func 43) #[] #[.pointer (some ⟨B, 0, none⟩)]] w fun e w' => e = .returned (.tuple #[]) ∧ ∃ d' : Array (It rk), PermIn 0 d.size d d' ∧ SortedIn (ltR rk) 0 d.size d' ∧ SC (fun x : It rk => x.1.1) w0 blk off d' w' := by
  have hl := fun W => len_any (d.size : Int) W (by omega) (by omega)
  rw [Int.toNat_natCast] at hl
  have hb := bitLen_small d.size (by omega)
  generalize Lib.bitLen d.size = n at hl hb
  have hc := pdqsortC B blk off cap w0 R (swo_ltR rk) d.size 0 d.size n d w S (by omega) (Nat.zero_le _) (Nat.le_refl _) (by omega) (by omega) (Or.inl rfl)
  have HL := hidden hl
  have HC := hidden hc
  clear hl hc S
  go_enter Try.func41, Try.ntmps41
  go_wp2_with fail
  refine (HL.out _).mono ?_
  rintro e w1 ⟨rfl, rfl⟩
  go_wp2_with fail
  refine HC.out.mono ?_
  rintro e w2 ⟨rfl, d', hp, ho, S2⟩
  have HP := hidden hp
  have HO := hidden ho
  clear hp ho HL HC
  go_wp2
  go_end0
  exact ⟨rfl, d', HP.out, HO.out, S2⟩

set_option maxHeartbeats 2000000 in
set_option maxRecDepth 1000000 in
theorem pdq0_any (p : Option Addr) (cap : Nat) (lim : Nat) (v : Value) (w : World) : Calls Try.prog 47 #[.slice p 0 cap, .int .i64 0, .int .i64 0, .int .i64 lim, v] w fun e w' => e = .returned (.tuple #[]) ∧ w' = w := by
  have h51 := fun W => insertion0_any p cap v W
  go_enter Try.func47, Try.ntmps47
  go_wp2
  go_loopg [1, 2] 0 (fun g1 v1 v2 wr => v1 = .int .i64 0 ∧ v2 = .int .i64 0 ∧ wr = w)
  case atStart => exact ⟨rfl, rfl, rfl⟩
  case round =>
    obtain ⟨rfl, rfl, rfl⟩ := hrel
    go_wp2_with fail
    refine (h51 _).mono ?_
    rintro e w2 ⟨rfl, rfl⟩
    go_wp2
    (try simp only [Exit.inBlock, Exit.then]); refine bodyPost_ret (results_none rfl _ _ _) rfl ?_
    exact ⟨rfl, rfl⟩
set_option maxHeartbeats 1000000 in
theorem sortFunc0_any (p : Option Addr) (cap : Nat) (v : Value) (w : World) : Calls Try.prog 41 #[.slice p 0 cap, v] w fun e w' => e = .returned (.tuple #[]) ∧ w' = w := by
  have hl := fun W => len_any 0 W (by omega) (by omega)
  have h47 := fun n W => pdq0_any p cap n v W
  generalize Lib.bitLen (0 : Int).toNat = n at hl
  go_enter Try.func41, Try.ntmps41
  go_wp2_with fail
  refine (hl _).mono ?_
  rintro e w1 ⟨rfl, rfl⟩
  go_wp2_with fail
  refine (h47 _ _).mono ?_
  rintro e w2 ⟨rfl, rfl⟩
  go_wp2
  go_end0
  exact ⟨rfl, rfl⟩

section
variable {rk : Array Int}
theorem items_law {d : Array (Int × Int)} (hK : Keyed d rk.size) [Inhabited (It rk)] {e : Array (It rk)} (hp : PermIn 0 (tagged hK).size (tagged hK) e) (ho : SortedIn (ltR rk) 0 (tagged hK).size e) :
    (e.toList.map (fun x => x.1.1)).length = d.size ∧ (e.toList.map (fun x => x.1.1)).Perm d.toList ∧ Ordered (gtR rk) (e.toList.map (fun x => x.1.1)) := by
  refine ⟨by rw [List.length_map, Array.length_toList, hp.1, size_tagged], ?_, ?_⟩
  · have := (toList_perm hp).map (fun x : It rk => x.1.1)
    rwa [map_tagged] at this
  · have h := ordered_of_sorted (lt := ltR rk) (e := e) (by rw [hp.1]; exact ho)
    exact List.pairwise_map.2 h

set_option maxHeartbeats 2000000 in
theorem implSortFunc_any (p q : Option Addr) (cap cap' : Nat) (d : Array (Int × Int)) (w : World) (hI : Items w p d) (hR : Ints w q rk) (hK : Keyed d rk.size) (hsz : d.size ≤ 4096) :
    Calls Try.prog 28 #[.slice p d.size cap, .slice q rk.size cap'] w fun e w' => ∃ r c, e = .returned (.slice r d.size c) ∧ (∃ l : List (Int × Int), l.length = d.size ∧ l.Perm d.toList ∧ Ordered (gtR rk) l ∧ Items w' r l.toArray) ∧ Below w.heap.size w w' := by
  obtain ⟨i0, hi, hz0, hz1, hz2⟩ := info_parts info34
  have hown0 : (w.alloc (.cells #[] 34)).ownsRow w.heap.size 34 2 (.slice (some ⟨w.heap.size, 0, none⟩) 0 0) 0 [] := World.ownsRow_lit w #[] 0 (Nat.le_refl _) (Nat.zero_le _) rfl
  have hB0 : Below w.heap.size w (w.alloc (.cells #[] 34)) := (Below.refl _ _).alloc (Nat.le_refl _) _
  by_cases h0 : d.size = 0
  · have hnil : ∀ (W : World) (r : Option Addr), ∃ l : List (Int × Int), l.length = 0 ∧ l.Perm d.toList ∧ Ordered (gtR rk) l ∧ Items W r l.toArray := fun W r => ⟨[], rfl, by rw [List.eq_nil_of_length_eq_zero (show d.toList.length = 0 by simpa using h0)], List.Pairwise.nil, Or.inl rfl⟩
    rw [h0]
    cases p with
    | none =>
      go_enter Try.func28, Try.ntmps28
      go_wp2_with (at_builtin; refine wpList_append_nothing rfl _ _ 22 rfl w.heap.size 34 i0 2 cap Try.underlying22 hi _ _ _ rfl hown0 rfl ?_)
      go_wp2_with fail
      refine (order_any _ _ _ _).mono ?_
      rintro e w2 ⟨rfl, rfl⟩
      go_wp2_with fail
      refine (sortFunc0_any _ _ _ _).mono ?_
      rintro e w3 ⟨rfl, rfl⟩
      go_wp2
      go_ret
      exact ⟨_, _, rfl, hnil _ _, hB0.alloc hB0.size _⟩
    | some ad =>
      go_enter Try.func28, Try.ntmps28
      go_wp2_with (at_builtin; refine wpList_append_own _ rfl _ _ 22 rfl w.heap.size 34 i0 (.agg #[.int .i64 0, .int .i64 0]) 2 16 Try.underlying22 hi hz0 hz1 hz2 rfl (by decide) _ _ _ rfl hown0 ad 0 cap [] rfl rfl ?c1 ?c2 ?c3 ?c4 ?c5 ?_)
      case c1 => intro j u hu; simp at hu
      case c2 => intro u hu; cases hu
      case c3 => exact Nat.zero_le _
      case c4 => exact Nat.zero_le _
      case c5 => exact hB0.size
      intro v' w1 hown' hgrow _
      have hB1 : Below w.heap.size w w1 := hB0.grown hgrow hB0.size (fun k hk => (hown0.lt k hk).1)
      obtain ⟨r, c, rfl⟩ := ownsRow_form hown'
      clear hown0 hown' hgrow
      go_wp2_with fail
      refine (order_any _ _ _ _).mono ?_
      rintro e w2 ⟨rfl, rfl⟩
      go_wp2_with fail
      refine (sortFunc0_any _ _ _ _).mono ?_
      rintro e w3 ⟨rfl, rfl⟩
      go_wp2
      go_ret
      exact ⟨_, _, rfl, hnil _ _, hB1.alloc hB1.size _⟩
  · obtain ⟨b, off, rfl, hC⟩ := hI.at (i := 0) (by omega)
    have hcells := items_cells hC
    have hbw : b < w.heap.size := World.block_lt_of_cell? w _ (hC 0 (by omega)).1
    have hnews : ∀ j u, (cells2 d.toList)[j]? = some u → (w.alloc (.cells #[] 34)).cell? ((⟨b, off, none⟩ : Addr).add j) = some u := fun j u hu => by
      have := hcells j u hu
      rw [addr_add] at this ⊢
      exact ((Gr.refl w).alloc _).kept this
    have hlen : (cells2 d.toList).length = d.size * 2 := by rw [length_cells2, Array.length_toList]
    have hone := cells2_one d.toList
    have HN := hidden hnews
    clear hnews hcells hC
    have : Inhabited (It rk) := ⟨⟨(d[0]!, 0), hK 0 (by omega)⟩⟩
    have AS := asc_tagged hK
    have hown1 := fun (v' : Value) (w1 : World) (h : w1.ownsRow w.heap.size 34 2 v' d.size (cells2 d.toList)) (hB1 : Below w.heap.size w w1) => show ∃ g c, v' = .slice (some ⟨g, 0, none⟩) d.size c ∧ w.heap.size ≤ g ∧ ∀ w0, w0 = w1.alloc (.cells #[.slice q rk.size cap'] 23) → SC (fun x : It rk => x.1.1) w0 g 0 (tagged hK) w0 ∧ (∀ W, w0.grownBy W (some g) → Ranks W w1.heap.size rk) from by
      rcases h.2 with ⟨_, h'⟩ | ⟨g, c, cur, rfl, hg, _⟩
      · omega
      · refine ⟨g, c, rfl, hg, fun w0 hw0 => ?_⟩
        subst hw0
        refine ⟨SC.ofOwn hK h ((Gr.refl _).alloc _), ranks_kept hR hg (cap' := cap') (hB1.alloc hB1.size _) ?_ (by simp) (by simp)⟩
        have := (h.lt g rfl).2
        omega
    have HO := hidden hown1
    clear hown1
    generalize hL : cells2 d.toList = L at *
    go_enter Try.func28, Try.ntmps28
    go_wp2_with (at_builtin; refine wpList_append_own _ rfl _ _ 22 rfl w.heap.size 34 i0 (.agg #[.int .i64 0, .int .i64 0]) 2 16 Try.underlying22 hi hz0 hz1 hz2 rfl (by decide) _ _ _ rfl hown0 ⟨b, off, none⟩ d.size cap L rfl hlen HN.out hone ?c3 ?c4 ?c5 ?_)
    case c3 => unfold maxLen; omega
    case c4 => omega
    case c5 => exact hB0.size
    intro v' w1 hown' hgrow _
    have hB1 : Below w.heap.size w w1 := hB0.grown hgrow hB0.size (fun k hk => (hown0.lt k hk).1)
    obtain ⟨g, c, rfl, hg, hS⟩ := HO.out v' w1 hown' hB1
    clear hown0 hown' hgrow HO hB0
    obtain ⟨S, R⟩ := hS _ rfl
    have hc := sortFuncC w1.heap.size g 0 c (w1.alloc (.cells #[.slice q rk.size cap'] 23)) R (tagged hK) _ S (by rw [size_tagged]; omega)
    rw [size_tagged] at hc
    have HC := hidden hc
    clear hc S R hS
    go_wp2_with fail
    refine (order_any _ _ _ _).mono ?_
    rintro e w2 ⟨rfl, rfl⟩
    go_wp2_with fail
    refine HC.out.mono ?_
    rintro e w3 ⟨rfl, d', hp, ho, S3⟩
    have HP := hidden hp
    have HO := hidden ho
    clear hp ho HC
    go_wp2
    go_ret
    have hlaw := items_law hK (by rw [size_tagged]; exact HP.out) (by rw [size_tagged]; exact HO.out)
    refine ⟨_, _, rfl, ⟨d'.toList.map (fun x => x.1.1), hlaw.1, hlaw.2.1, hlaw.2.2, S3.items rfl⟩, ?_⟩
    exact (hB1.alloc hB1.size _).grown S3.gb (by have := hB1.size; simp; omega) (fun k hk => by cases hk; exact hg)
end

end Go.Proofs.Ytfkhfkbkjiekkaa
