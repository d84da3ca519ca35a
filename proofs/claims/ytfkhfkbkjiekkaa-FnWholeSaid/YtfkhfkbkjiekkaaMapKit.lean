/-
  A map from items to numbers: the key's law; what the entry's two steps do.
-/
import Derived.Test.YtfkhfkbkjiekkaaOpen
import Derived.Maps.OwnOps
import Derived.Maps.Views
import Derived.Maps.RangeWalk
import Derived.DeepKeys4
import Derived.WideKeyEntry
import Derived.WideKeyPair
namespace Go.Proofs.Ytfkhfkbkjiekkaa
open Go.RowKit Go.Maps
theorem deep34 : Try.prog.keyTypeAt 5 34 = true := by kernel_rfl
theorem klaw34 : Go.WideMaps.KeyLaw Try.prog 34 := Go.deep_law_laid laidOut (m := 5) (by decide) types_lt deep34 (by rw [Try.underlying34])
theorem law34 : Go.Maps.Keyed Try.prog 34 := Go.Maps.Keyed.of_law klaw34
theorem u47 : Try.prog.underlying 47 = some (.map 34 3) := by kernel_rfl
theorem zero3 (w : World) : (zeroValue 3).run Try.prog w = .ok (.int .i64 0) w := by kernel_rfl
theorem kt34 : Try.prog.keyType 34 = true := by kernel_rfl
/-- what an item reads as, as a key -/
def klOf (y : Int × Int) : Lit := .string (keyBytes [.int .i64 y.1, .int .i64 y.2])
theorem klOf_isKey (y : Int × Int) : WideAt.IsKeyLit (klOf y) := trivial
theorem key34 (k m : Int) (hk : (Lit.int .i64 k).wf = true) (hm : (Lit.int .i64 m).wf = true) : keyOf Try.prog 34 (.agg #[.int .i64 k, .int .i64 m]) = some (klOf (k, m)) := by
  have hs : ∃ n, Try.prog.types.size = n + 1 := ⟨_, rfl⟩
  obtain ⟨n, hn⟩ := hs
  unfold keyOf klOf
  simp only [Try.underlying34]
  rw [if_pos (by simp [kt34, Value.formed, Try.underlying34, cells34]), hn]
  unfold Program.keyLits
  simp only [Try.underlying34, Value.cells]
  rw [if_pos ⟨by rw [cells34]; rfl, by simp⟩]
  simp [Program.keyLits, Try.underlying3, cells3, hk, hm]

abbrev MapAt (w : World) (B n : Nat) (D : DataW Unit) : Prop := w.ownsMap Try.prog 34 (plainElem Try.prog 3) B n D

theorem setBlock_twice (w : World) (b : Nat) (o o' : Obj) : ChangeMaps.setBlock (ChangeMaps.setBlock w b o) b o' = ChangeMaps.setBlock w b o' := by
  unfold ChangeMaps.setBlock
  simp

theorem entry_step {w : World} {B n : Nat} {D : DataW Unit} (h : MapAt w B n D) (hn : n < maxLen) {key : Value} {kl : Lit} (hkey : keyOf Try.prog 34 key = some kl) :
    ∃ (v0 : Value) (st : Nat) (w1 : World), (Instr.mapEntry 47 (.map (some B)) key).run Try.prog w = .ok (.tuple #[v0, .int .i64 (st : Int)]) w1 ∧ w.grownBy w1 (some B) ∧
      ∀ c : Int, (Lit.int .i64 c).wf = true → ∃ w2, (Instr.entryStore 47 (.map (some B)) (.int .i64 (st : Int)) (.int .i64 c)).run Try.prog w1 = .ok () w2 ∧ MapAt w2 B (n + 1) (D.put kl (.lit (.int .i64 c))) ∧ w.grownBy w2 (some B) := by
  have h0 := h
  obtain ⟨es, clock, hb, F, hs, hD⟩ := h
  obtain ⟨v0, st, es1, clock1, hE, _, hS⟩ := WideElems.entry_then_store klaw34 u47 zero3 hb F hkey
  refine ⟨v0, st, _, hE, ⟨rfl, rfl, rfl, by simp [ChangeMaps.setBlock], fun i _ hi => ChangeMaps.heap_setBlock_other hb _ (fun e => hi (by rw [e]))⟩, fun c hc => ?_⟩
  obtain ⟨es', clock', hs1, hs2⟩ := hS (ChangeMaps.setBlock w B (.map es1 clock1)) (.int .i64 c) (ChangeMaps.heap_setBlock_same hb _)
  obtain ⟨w', hu, hm, hg⟩ := h0.update law34 u47 hn hkey (val := .int .i64 c) (plainElem_int Try.underlying3 hc)
  rw [hu] at hs2
  injection hs2 with _ hs2
  rw [setBlock_twice] at hs1
  exact ⟨w', by rw [hs2]; exact hs1, hm, hg⟩
/-- how often a key stands among the first of the one row, less how often among the first of the other -/
def balance (a b : List (Int × Int)) (kl : Lit) : Int := (a.countP fun y => kl.sameKey (klOf y) : Nat) - (b.countP fun y => kl.sameKey (klOf y) : Nat)
theorem balance_perm {a b : List (Int × Int)} (h : a.Perm b) (kl : Lit) : balance a b kl = 0 := by unfold balance; rw [h.countP_eq]; omega
theorem countP_snoc (a : List (Int × Int)) (y : Int × Int) (kl : Lit) : (a ++ [y]).countP (fun z => kl.sameKey (klOf z)) = a.countP (fun z => kl.sameKey (klOf z)) + (if kl.sameKey (klOf y) = true then 1 else 0) := by
  rw [List.countP_append]; simp [List.countP_cons]
theorem balance_le (a b : List (Int × Int)) (kl : Lit) : -(b.length : Int) ≤ balance a b kl ∧ balance a b kl ≤ a.length := by
  unfold balance
  have h1 := List.countP_le_length (p := fun y => kl.sameKey (klOf y)) (l := a)
  have h2 := List.countP_le_length (p := fun y => kl.sameKey (klOf y)) (l := b)
  omega

/-- the map holds the balance -/
def Bal (D : DataW Unit) (a b : List (Int × Int)) : Prop := ∀ kl, D.atKey kl (.lit (.int .i64 0)) = .lit (.int .i64 (balance a b kl))

theorem Bal.start : Bal (.map []) [] [] := fun kl => by
  have : (DataW.map ([] : List (Lit × DataW Unit))).atKey kl (.lit (.int .i64 0)) = .lit (.int .i64 0) := by simp [DataW.atKey]
  rw [this]; simp [balance]
theorem MapAt.isMap {w : World} {B n : Nat} {D : DataW Unit} (h : MapAt w B n D) : IsMap D := by
  obtain ⟨es, _, _, _, _, rfl⟩ := h
  exact ⟨_, rfl⟩
theorem Bal.more {D : DataW Unit} (hD : IsMap D) {a b : List (Int × Int)} (h : Bal D a b) (y : Int × Int) : Bal (D.put (klOf y) (.lit (.int .i64 (balance a b (klOf y) + 1)))) (a ++ [y]) b := fun kl => by
  by_cases e : kl = klOf y
  · subst e
    rw [atKey_put_same hD (klOf_isKey y)]
    unfold balance
    rw [countP_snoc, if_pos (WideAt.sameKey_self (klOf_isKey y))]
    congr 2; omega
  · rw [atKey_put_other e, h kl]
    unfold balance
    rw [countP_snoc, if_neg (fun h => e ((WideAt.sameKey_iff (klOf_isKey y)).1 h))]
    rfl
theorem Bal.less {D : DataW Unit} (hD : IsMap D) {a b : List (Int × Int)} (h : Bal D a b) (y : Int × Int) : Bal (D.put (klOf y) (.lit (.int .i64 (balance a b (klOf y) - 1)))) a (b ++ [y]) := fun kl => by
  by_cases e : kl = klOf y
  · subst e
    rw [atKey_put_same hD (klOf_isKey y)]
    unfold balance
    rw [countP_snoc, if_pos (WideAt.sameKey_self (klOf_isKey y))]
    congr 2; omega
  · rw [atKey_put_other e, h kl]
    unfold balance
    rw [countP_snoc, if_neg (fun h => e ((WideAt.sameKey_iff (klOf_isKey y)).1 h))]
    rfl
/-- behind the entry's first step the map reads as it did -/
theorem entry_reads {w : World} {B n : Nat} {D : DataW Unit} (h : MapAt w B n D) (hn : n < maxLen) {a b : List (Int × Int)} (hb0 : Bal D a b) {key : Value} {kl : Lit} (hkey : keyOf Try.prog 34 key = some kl) :
    ∀ v w1, (Instr.mapEntry 47 (.map (some B)) key).run Try.prog w = .ok v w1 → ∃ D1, MapAt w1 B (n + 1) D1 ∧ Bal D1 a b := by
  intro v w1 hrun
  have h0 := h
  obtain ⟨es, clock, hb, F, hs, hD⟩ := h
  rcases klaw34.find w hkey es.toList F.keys with ⟨h1, h2⟩ | ⟨j, e0, h1, h2, h3⟩
  · have hE : (Instr.mapEntry 47 (.map (some B)) key).run Try.prog w = .ok (.tuple #[.int .i64 0, goInt clock]) (ChangeMaps.setBlock w B (.map (es.push ⟨key, .int .i64 0, clock⟩) (clock + 1))) := by
      simp [Instr.mapEntry, run_underlying u47, MapKept.run_getObj_map hb, klaw34.check w false hkey, h1, MapKept.run_setObj_map _ hb, Result.andThen, ChangeMaps.setBlock]
    have hU : (Instr.mapUpdate 47 (.map (some B)) key (.int .i64 0)).run Try.prog w = .ok () (ChangeMaps.setBlock w B (.map (es.push ⟨key, .int .i64 0, clock⟩) (clock + 1))) := by
      simp [Instr.mapUpdate, run_underlying u47, MapKept.run_getObj_map hb, klaw34.check w false hkey, h1, MapKept.run_setObj_map _ hb, Result.andThen, ChangeMaps.setBlock]
    obtain ⟨w', hu, hm, _⟩ := h0.update law34 u47 hn hkey (val := .int .i64 0) (plainElem_int Try.underlying3 (by decide))
    rw [hU] at hu
    injection hu with _ hu
    rw [hE] at hrun
    injection hrun with _ hrun
    refine ⟨D.put kl (.lit (.int .i64 0)), by rw [← hrun, hu]; exact hm, fun kl' => ?_⟩
    by_cases e : kl' = kl
    · subst e
      rw [atKey_put_same h0.isMap (law34.key hkey)]
      have hat := WideElems.atKey_none klaw34 F hkey h2 (.lit (.int .i64 0))
      rw [← hD, hb0 kl'] at hat
      exact hat.symm
    · rw [atKey_put_other e]; exact hb0 kl'
  · have hj : es[j]? = some e0 := by simpa using h2
    have hsame : es.modify j (fun e => { e with key := key }) = es := by
      apply Array.ext'
      rw [Array.toList_modify, Go.ChangeMaps.modify_eq_set _ _ _ _ h2]
      have : ({ e0 with key := key } : MapEntry) = e0 := by rw [← h3]
      rw [this]
      exact WideElems.set_self _ _ _ h2
    have hE : (Instr.mapEntry 47 (.map (some B)) key).run Try.prog w = .ok (.tuple #[e0.val, goInt e0.born]) (ChangeMaps.setBlock w B (.map es clock)) := by
      simp [Instr.mapEntry, run_underlying u47, MapKept.run_getObj_map hb, klaw34.check w false hkey, h1, hj, h3, klaw34.stays w hkey, hsame, MapKept.run_setObj_map _ hb, Result.andThen, ChangeMaps.setBlock]
    rw [hE] at hrun
    injection hrun with _ hrun
    refine ⟨D, ?_, hb0⟩
    rw [← hrun]
    exact ⟨es, clock, ChangeMaps.heap_setBlock_same hb _, F, by omega, hD⟩

/-- the look-up -/
theorem look_at {w : World} {B n : Nat} {D : DataW Unit} (h : MapAt w B n D) {a b : List (Int × Int)} (hb : Bal D a b) {y : Int × Int} (h1 : (Lit.int .i64 y.1).wf = true) (h2 : (Lit.int .i64 y.2).wf = true) :
    (Instr.lookup 47 (.map (some B)) (.agg #[.int .i64 y.1, .int .i64 y.2]) false).run Try.prog w = .ok (.int .i64 (balance a b (klOf y))) w := by
  obtain ⟨c, hrun, hat, _⟩ := World.ownsMap.lookup_int h law34 u47 Try.underlying3 (zero3 w) (key34 y.1 y.2 h1 h2)
  rw [hb] at hat
  rw [hrun]
  injection hat with hat
  injection hat with _ hat
  rw [hat]
end Go.Proofs.Ytfkhfkbkjiekkaa
