/-
  'FnWhole', walked: every function by its contract.
-/
import Derived.Test.YtfkhfkbkjiekkaaWholePlain
import Derived.Test.YtfkhfkbkjiekkaaLawLeast
namespace Go.Proofs.Ytfkhfkbkjiekkaa
open Go.RowKit Go.Sort

theorem field_key (a b : Int) (W : World) : (Instr.field 34 (.agg #[.int .i64 a, .int .i64 b]) 0).run Try.prog W = .ok (.int .i64 a) W := by
  first | kernel_rfl | simp [Instr.field, Try.underlying34, run_underlying Try.underlying34]

set_option maxHeartbeats 4000000 in
set_option maxRecDepth 100000 in
theorem lawWhole_any (p q : Option Addr) (cap cap' : Nat) (t : Int) (d : Array (Int × Int)) (rk : Array Int) (w : World) (hI : Items w p d) (hR : Ints w q rk) (wf : ∀ i, i < d.size → (Lit.int .i64 d[i]!.1).wf = true ∧ (Lit.int .i64 d[i]!.2).wf = true) :
    Calls Try.prog 11 #[.slice p d.size cap, .slice q rk.size cap', .int .i64 t] w fun e w' => e = .returned (.bool true) ∧ Below w.heap.size w w' := by
  have mixed : Try.prog.follows .mixedOrders = true := by kernel_rfl
  have held := noHeld34
  by_cases h1 : 2147483647 < (d.size : Int)
  · go_enter Try.func11, Try.ntmps11
    go_wp2
    go_ret
    exact ⟨rfl, Below.refl _ _⟩
  · by_cases h2 : 2147483647 < (rk.size : Int)
    · go_enter Try.func11, Try.ntmps11
      go_wp2
      go_ret
      exact ⟨rfl, Below.refl _ _⟩
    · have hw := well_any p q cap cap' d rk.size w hI (by omega) (by omega)
      have HWF := hidden wf
      clear wf
      go_enter Try.func11, Try.ntmps11
      go_wp2_with fail
      refine hw.mono ?_
      rintro e w1 ⟨ok, rfl, hok, hg⟩
      cases ok with
      | false =>
        go_wp2
        go_ret
        exact ⟨rfl, hg.below⟩
      | true =>
        have hk := hok.1 rfl
        have c28 := hidden (implSortFunc_any p q cap cap' d w1 (hI.gr hg) (hR.gr hg) hk.1 hk.2.1)
        have HK := hidden hk
        clear hok hw hk
        go_wp2_with fail
        refine c28.out.mono ?_
        rintro e w2 ⟨r2, k2, rfl, ⟨l, hl, hp, ho, i2⟩, b2⟩
        have c26 := hidden (implStable_any p q cap cap' d w2 ((hI.gr hg).below b2) ((hR.gr hg).below b2) HK.out.1 (by have := HK.out.2.1; omega))
        have hls : l.toArray.size = d.size := by simpa using hl
        have HLS := hidden hls
        have HP := hidden hp
        have HO := hidden ho
        have I2 := hidden i2
        clear hp ho hl hls i2 c28
        go_wp2_with fail
        refine c26.out.mono ?_
        rintro e w3 ⟨r3, k3, rfl, i3, b3⟩
        obtain ⟨s, hs⟩ : ∃ s, s = insAll (gtR rk) d.toList := ⟨_, rfl⟩
        rw [← hs] at i3
        have HS := hidden hs
        have hso : Ordered (gtR rk) s := by rw [hs]; exact insAll_ordered (weak_gtR rk) _
        have hsp : s.Perm d.toList := by rw [hs]; exact insAll_perm _ _
        have hss : s.toArray.size = d.size := by rw [hs]; exact size_insAll d
        have HSO := hidden hso
        have HSP := hidden hsp
        have HSS := hidden hss
        have hbz : Below w.heap.size w w3 := hg.below.trans ((below_less b2 hg.below.size).trans (below_less b3 (Nat.le_trans hg.below.size b2.size)))
        have HBZ := hidden hbz
        have iD := hidden (((hI.gr hg).below b2).below b3)
        have iR := hidden (((hR.gr hg).below b2).below b3)
        have iF := hidden (I2.out.below b3)
        have iS := hidden i3
        have kF := hidden (mem_get (P := fun x => 0 ≤ x.1 ∧ x.1 < (rk.size : Int)) HP.out HK.out.1)
        have kS := hidden (mem_get (P := fun x => 0 ≤ x.1 ∧ x.1 < (rk.size : Int)) HSP.out HK.out.1)
        have hd4 := HK.out.2.1
        have c29 : Hid (∀ W, Below w3.heap.size w3 W → Calls Try.prog 29 #[.slice r2 d.size k2, .slice p d.size cap] W fun e w' => e = .returned (.bool true) ∧ Below w3.heap.size w3 w') := hidden fun W k => by
          have h := mixed_any r2 p k2 cap l.toArray d W (iF.out.below k) (iD.out.below k) (by simpa using HP.out) (by rw [HLS.out]; exact hd4) (mem_get (P := fun x => (Lit.int .i64 x.1).wf = true ∧ (Lit.int .i64 x.2).wf = true) HP.out HWF.out) HWF.out
          rw [HLS.out] at h
          exact h.mono fun e w' ⟨h1, h2⟩ => ⟨h1, k.trans (below_less h2 k.size)⟩
        have c14 : Hid (∀ W, Below w3.heap.size w3 W → Calls Try.prog 14 #[.slice r2 d.size k2, .slice q rk.size cap'] W fun e w' => e = .returned (.bool true) ∧ Below w3.heap.size w3 w') := hidden fun W k => by
          have h := inOrder_any r2 q k2 cap' l.toArray rk W (iF.out.below k) (iR.out.below k) kF.out (by rw [HLS.out]; omega)
          rw [ordered_rank HO.out, HLS.out] at h
          exact h.mono fun e w' ⟨h1, h2⟩ => ⟨h1, k.trans h2.below⟩
        have c27 : Hid (∀ W, Below w3.heap.size w3 W → Calls Try.prog 27 #[.slice p d.size cap, .slice q rk.size cap'] W fun e w' => ∃ r c, e = .returned (.slice r d.size c) ∧ Items w' r s.toArray ∧ Below w3.heap.size w3 w') := hidden fun W k => by
          have h := specStable_any p q cap cap' d W (iD.out.below k) (iR.out.below k) HK.out.1 (by omega)
          rw [← HS.out] at h
          exact h.mono fun e w' ⟨r, c, h1, h2, h3⟩ => ⟨r, c, h1, h2, k.trans (below_less h3 k.size)⟩
        have c25 : Hid (∀ W r c, Below w3.heap.size w3 W → Items W r s.toArray → Calls Try.prog 25 #[.slice r3 d.size k3, .slice r d.size c] W fun e w' => e = .returned (.bool true) ∧ Below w3.heap.size w3 w') := hidden fun W r c k ir => by
          have h := equalItems_any r3 r k3 c s.toArray W (iS.out.below k) ir (by rw [HSS.out]; omega)
          rw [HSS.out] at h
          exact h.mono fun e w' ⟨h1, h2⟩ => ⟨h1, k.trans h2.below⟩
        have c13 : Hid (∀ W, Below w3.heap.size w3 W → Calls Try.prog 13 #[.slice r2 d.size k2, .slice q rk.size cap'] W fun e w' => e = .returned (.bool true) ∧ Below w3.heap.size w3 w') := hidden fun W k => by
          have h := implInOrder_any r2 q k2 cap' l.toArray rk W (iF.out.below k) (iR.out.below k) kF.out (by rw [HLS.out]; omega)
          rw [down_rank HO.out, HLS.out] at h
          exact h.mono fun e w' ⟨h1, h2⟩ => ⟨h1, k.trans (h2.belowOf k.size)⟩
        have c13s : Hid (∀ W, Below w3.heap.size w3 W → Calls Try.prog 13 #[.slice r3 d.size k3, .slice q rk.size cap'] W fun e w' => e = .returned (.bool true) ∧ Below w3.heap.size w3 w') := hidden fun W k => by
          have h := implInOrder_any r3 q k3 cap' s.toArray rk W (iS.out.below k) (iR.out.below k) kS.out (by rw [HSS.out]; omega)
          rw [down_rank HSO.out, HSS.out] at h
          exact h.mono fun e w' ⟨h1, h2⟩ => ⟨h1, k.trans (h2.belowOf k.size)⟩
        clear hs hso hsp hss hbz i3 b2 b3 c26 I2
        go_wp2_with fail
        refine (c29.out _ (Below.refl _ _)).mono ?_
        rintro e w4 ⟨rfl, b4⟩
        go_wp2_with fail
        refine (c14.out _ b4).mono ?_
        rintro e w5 ⟨rfl, b5⟩
        go_wp2_with fail
        refine (c27.out _ b5).mono ?_
        rintro e w6 ⟨r6, k6, rfl, i6, b6⟩
        have h25 := hidden (c25.out w6 r6 k6 b6 i6)
        clear i6
        go_wp2_with fail
        refine h25.out.mono ?_
        rintro e w7 ⟨rfl, b7⟩
        go_wp2_with fail
        refine (c13.out _ b7).mono ?_
        rintro e w8 ⟨rfl, b8⟩
        go_wp2_with fail
        refine (c13s.out _ b8).mono ?_
        rintro e w9 ⟨rfl, b9⟩
        clear h25 c29 c14 c27 c25 c13 c13s b4 b5 b6 b7 b8
        have cs : Hid (∀ (r : Option Addr) (k : Nat) (L : List (Int × Int)) (W : World), L.Perm d.toList → Ordered (gtR rk) L → L.toArray.size = d.size → Items W r L.toArray → Below w3.heap.size w3 W → Calls Try.prog 18 #[.slice r d.size k, .slice q rk.size cap', .int .i64 t] W fun e w' =>
            e = .returned (.tuple #[.int .i64 (below (fun i => rankOf rk d[i]!) t d.size : Nat), .bool (among (fun i => rankOf rk d[i]!) t d.size)]) ∧ Below w3.heap.size w3 w') := hidden fun r k L W hp ho hs hi kw => by
          have hS := sorted_rank ho
          have h := implSearchFunc_any r q k cap' t L.toArray rk W hi (iR.out.below kw) (mem_get (P := fun x => 0 ≤ x.1 ∧ x.1 < (rk.size : Int)) hp HK.out.1) (by omega) hS
          rw [hs] at h hS
          refine h.mono fun e w' h2 => ?_
          obtain ⟨i, ok, he, hP, hok, hgr⟩ := h2
          have e1 := below_is hP
          have e2 := among_is hP hS hok
          rw [below_perm hp t] at e1
          rw [among_perm hp t] at e2
          exact ⟨by rw [he, e1, e2], kw.trans (hgr.belowOf kw.size)⟩
        have c19 : Hid (∀ W, Below w3.heap.size w3 W → Calls Try.prog 19 #[.slice p d.size cap, .slice q rk.size cap', .int .i64 t] W fun e w' =>
            e = .returned (.tuple #[.int .i64 (below (fun i => rankOf rk d[i]!) t d.size : Nat), .bool (among (fun i => rankOf rk d[i]!) t d.size)]) ∧ Below w3.heap.size w3 w') := hidden fun W k =>
          (place_any p q cap cap' t d rk W (iD.out.below k) (iR.out.below k) HK.out.1 (by omega)).mono fun e w' ⟨h1, h2⟩ => ⟨h1, k.trans (h2.belowOf k.size)⟩
        have c13d : Hid (∀ W, Below w3.heap.size w3 W → Calls Try.prog 13 #[.slice p d.size cap, .slice q rk.size cap'] W fun e w' => e = .returned (.bool (downOk rk d (d.size - 1))) ∧ Below w3.heap.size w3 w') := hidden fun W k =>
          (implInOrder_any p q cap cap' d rk W (iD.out.below k) (iR.out.below k) HK.out.1 (by omega)).mono fun e w' ⟨h1, h2⟩ => ⟨h1, k.trans (h2.belowOf k.size)⟩
        have c14d : Hid (∀ W, Below w3.heap.size w3 W → Calls Try.prog 14 #[.slice p d.size cap, .slice q rk.size cap'] W fun e w' => e = .returned (.bool (downOk rk d (d.size - 1))) ∧ Below w3.heap.size w3 w') := hidden fun W k => by
          have h := inOrder_any p q cap cap' d rk W (iD.out.below k) (iR.out.below k) HK.out.1 (by omega)
          rw [← down_up] at h
          exact h.mono fun e w' ⟨h1, h2⟩ => ⟨h1, k.trans h2.below⟩
        generalize below (fun i => rankOf rk d[i]!) t d.size = u at cs c19
        generalize among (fun i => rankOf rk d[i]!) t d.size = v at cs c19
        generalize downOk rk d (d.size - 1) = z at c13d c14d
        by_cases h0 : 0 < d.size
        · have h0z : (0 : Int) < (d.size : Int) := by omega
          obtain ⟨m, hm1, hm2⟩ : ∃ m, m + 1 ≤ d.size ∧ d.size ≤ m + 1 := ⟨d.size - 1, by omega, by omega⟩
          have rm : IntKind.i64.wrap ((d.size : Int) - 1) = (m : Int) := by rw [IntKind.wrap_i64]; omega
          have bm : (m : Int) < (d.size : Int) := by omega
          have pm : (0 : Int) ≤ (m : Int) := by omega
          have em : ((m : Int)).toNat = m := by omega
          have hlast := last_high HP.out HO.out h0
          have hfirst := stable_head (rk := rk) d h0
          rw [← HS.out] at hfirst
          rw [show d.size - 1 = m by omega] at hlast
          obtain ⟨fb, fo, rfl, hF⟩ := iF.out.at (i := m) (by rw [HLS.out]; omega)
          obtain ⟨sb, so, rfl, hSt⟩ := iS.out.at (i := 0) (by rw [HSS.out]; omega)
          have kf := kF.out m (by rw [HLS.out]; omega)
          obtain ⟨jy, hjy, ey⟩ := bestOf_mem rk higher d d.size (Nat.le_refl _) h0
          have ky := HK.out.1 jy hjy
          rw [← ey] at ky
          obtain ⟨rb, ro, rfl, hRk⟩ := iR.out.at (i := l.toArray[m]!.1.toNat) (by omega)
          have c22 := fun n os => implLeast_any p (some ⟨rb, ro, none⟩) cap cap' d rk (Go.Sort.grow (w9.drewN n) os) ((iD.out.below b9).gr ((Gr.refl _).grow n os)) ((iR.out.below b9).gr ((Gr.refl _).grow n os)) HK.out.1 h0 (by omega)
          have c24 := fun n os => implMost_any p (some ⟨rb, ro, none⟩) cap cap' d rk (Go.Sort.grow (w9.drewN n) os) ((iD.out.below b9).gr ((Gr.refl _).grow n os)) ((iR.out.below b9).gr ((Gr.refl _).grow n os)) HK.out.1 h0 (by omega)
          have kept : ∀ b o v, w3.cell? ⟨b, o, none⟩ = some v → ∀ n os, (Go.Sort.grow (w9.drewN n) os).cell? ⟨b, o, none⟩ = some v := fun b o v hc n os => ((Gr.refl _).grow n os).kept ((b9.cell (p := ⟨b, o, none⟩) (World.block_lt_of_cell? w3 _ hc)).trans hc)
          have hS0 := hSt 0 (by rw [HSS.out]; omega)
          rw [hfirst] at hS0
          have l1 := kept sb so _ (by simpa using hS0.1)
          have l2 := kept sb (so + 1) _ (by simpa using hS0.2)
          have l3 := kept fb (fo + m * 2) _ (hF m (by rw [HLS.out]; omega)).1
          have l4 := kept rb (ro + l.toArray[m]!.1.toNat) _ (hRk _ (by omega))
          have l5 := kept rb (ro + (bestOf rk higher d d.size).1.toNat) _ (hRk _ (by omega))
          change ∀ n os, _ = some (Value.int .i64 (rankOf rk l.toArray[m]!)) at l4
          change ∀ n os, _ = some (Value.int .i64 (rankOf rk (bestOf rk higher d d.size))) at l5
          rw [hlast] at l5
          have KPT := hidden (fun n os => b9.trans (Gr.belowOf ((Gr.refl w9).grow n os) b9.size))
          clear kept hS0 hfirst hlast hF hSt hRk ey
          generalize bestOf rk lower d d.size = x at c22 l1 l2
          generalize bestOf rk higher d d.size = y at c24 l5 ky
          generalize rankOf rk l.toArray[m]! = vr at l4 l5
          generalize l.toArray[m]! = f at l3 l4 kf
          obtain ⟨ky1, ky2⟩ := ky
          obtain ⟨kf1, kf2⟩ := kf
          have hfk := field_key y.1 y.2
          go_wp2_with fail
          go_quiet_grown (first | (go_at_call 22; refine Calls.grown_of (c22 _ _)) | (go_at_call 24; refine Calls.grown_of (c24 _ _)))
          have b10 := KPT.out nq osq
          clear c22 c24 l1 l2 l3 l4 l5 KPT
          generalize grow (w9.drewN nq) osq = w10 at b10 ⊢

          go_wp2_with fail
          refine (cs.out _ k2 l _ HP.out HO.out HLS.out (iF.out.below b10) b10).mono ?_
          rintro e w11 ⟨rfl, b11⟩
          go_wp2_with fail
          refine (cs.out _ k3 s _ HSP.out HSO.out HSS.out (iS.out.below b11) b11).mono ?_
          rintro e w12 ⟨rfl, b12⟩
          go_wp2_with fail
          refine (c19.out _ b12).mono ?_
          rintro e w13 ⟨rfl, b13⟩
          go_wp2_with fail
          refine (c13d.out _ b13).mono ?_
          rintro e w14 ⟨rfl, b14⟩
          go_wp2_with fail
          refine (c14d.out _ b14).mono ?_
          rintro e w15 ⟨rfl, b15⟩
          go_wp2
          go_ret
          exact ⟨rfl, HBZ.out.trans (below_less b15 HBZ.out.size)⟩
        · have h0z : ¬ (0 : Int) < (d.size : Int) := by omega
          have h0d : decide ((d.size : Int) > 0) = false := decide_eq_false h0z
          have b10 := hidden (b9.drew)
          go_wp2_with fail
          go_region
          have b10 := b10.out
          generalize (World.drew _) = w10 at b10 ⊢

          go_wp2_with fail
          refine (cs.out _ k2 l _ HP.out HO.out HLS.out (iF.out.below b10) b10).mono ?_
          rintro e w11 ⟨rfl, b11⟩
          go_wp2_with fail
          refine (cs.out _ k3 s _ HSP.out HSO.out HSS.out (iS.out.below b11) b11).mono ?_
          rintro e w12 ⟨rfl, b12⟩
          go_wp2_with fail
          refine (c19.out _ b12).mono ?_
          rintro e w13 ⟨rfl, b13⟩
          go_wp2_with fail
          refine (c13d.out _ b13).mono ?_
          rintro e w14 ⟨rfl, b14⟩
          go_wp2_with fail
          refine (c14d.out _ b14).mono ?_
          rintro e w15 ⟨rfl, b15⟩
          go_wp2
          go_ret
          exact ⟨rfl, HBZ.out.trans (below_less b15 HBZ.out.size)⟩

end Go.Proofs.Ytfkhfkbkjiekkaa
