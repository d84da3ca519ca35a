/-
  No cell of these rows narrows 'for every input' (looked for: loops, veiled, ifaces, maps, wideKeys, modest, calm, conditions, laid).
  DERIVED. THE GIVEN ROWS OF THIS SEAT. 9 by the template 'for every input the law returns true; each argument reads behind the call as it read before'; 0 by the template 'total and deterministic' (their statements: YtfkhfkbkjiekkaaTotals.lean).
  GIVEN WITH THE SEED: the statements are not yours to turn. If you find one false, say at which input.
  Laid BY PROGRAM, IN A SANDBOX (cutbox-rows.mjs): the forced cells as the released guide's own fill.sh prints them over the translation 834187e74f629196… (all of the seat's roots in one cut). By AI agents, Wed Nov 11 2026. No macro, syntax, notation, axiom, sorry.
-/
import Derived.Test.YtfkhfkbkjiekkaaChecked
import GoSem.Claim
import GoSem.ClaimJoined
import GoSem.ClaimMapViews
import Derived.JoinedTies
import Derived.KernelRfl
namespace Go.Proofs.Ytfkhfkbkjiekkaa
/- THE CELL 'sum', in the pinned program and in every row, IS THE sha256 OF THE DUMP (.gsa) THAT YtfkhfkbkjiekkaaProg.lean LOADS. Nothing in Lean hashes anything: it is a label: what it is worth is what the hold of that sum in a sandbox is worth. -/
noncomputable def Try.pinned : Pinned := { name := "ytfkhfkbkjiekkaa", sum := "834187e74f62919603eb370d97980acaeb54d88bbbca455fcce445ede0ea4c1a", checked := Try.checked }
namespace Rows
def none {H : Type} : Left H := { results := [], args := [] }

/-- 'laws.FnExactInOrder': WHATEVER THE INPUT: true; the input reads as it did. -/
def fnExactInOrderSpec : ChangeSpec := { name := "fnExactInOrder", fn := fun _ => fun
  | [d1, d2] => { results := [.lit (.bool true)], args := [d1, d2] }
  | _ => none }
def fnExactInOrderRow : OpenClaim := { program := "ytfkhfkbkjiekkaa", sum := "834187e74f62919603eb370d97980acaeb54d88bbbca455fcce445ede0ea4c1a", func := "loop.example/pub-sortroads/laws.FnExactInOrder", spec := "fnExactInOrder", unfollowed := true, recurses := true, plainKeys := false, apart := false }
def FnExactInOrderSaid : Prop := fnExactInOrderRow.holds Try.pinned (OpenSpec.ofChange fnExactInOrderSpec)

/-- ITS FALSE NEIGHBOUR: 'it returns false'. Refute it at one input. -/
def fnExactInOrderWrong : ChangeSpec := { name := "fnExactInOrder", fn := fun _ => fun
  | [d1, d2] => { results := [.lit (.bool false)], args := [d1, d2] }
  | _ => none }
def FnExactInOrderWrongFalsely : Prop := fnExactInOrderRow.holds Try.pinned (OpenSpec.ofChange fnExactInOrderWrong)

/-- 'laws.FnExactRising': WHATEVER THE INPUT: true; the input reads as it did. -/
def fnExactRisingSpec : ChangeSpec := { name := "fnExactRising", fn := fun _ => fun
  | [d] => { results := [.lit (.bool true)], args := [d] }
  | _ => none }
def fnExactRisingRow : OpenClaim := { program := "ytfkhfkbkjiekkaa", sum := "834187e74f62919603eb370d97980acaeb54d88bbbca455fcce445ede0ea4c1a", func := "loop.example/pub-sortroads/laws.FnExactRising", spec := "fnExactRising", plainKeys := false, apart := false }
def FnExactRisingSaid : Prop := fnExactRisingRow.holds Try.pinned (OpenSpec.ofChange fnExactRisingSpec)

/-- ITS FALSE NEIGHBOUR: 'it returns false'. Refute it at one input. -/
def fnExactRisingWrong : ChangeSpec := { name := "fnExactRising", fn := fun _ => fun
  | [d] => { results := [.lit (.bool false)], args := [d] }
  | _ => none }
def FnExactRisingWrongFalsely : Prop := fnExactRisingRow.holds Try.pinned (OpenSpec.ofChange fnExactRisingWrong)

/-- 'laws.FnExactSearchFunc': WHATEVER THE INPUT: true; the input reads as it did. -/
def fnExactSearchFuncSpec : ChangeSpec := { name := "fnExactSearchFunc", fn := fun _ => fun
  | [d1, d2, d3] => { results := [.lit (.bool true)], args := [d1, d2, d3] }
  | _ => none }
def fnExactSearchFuncRow : OpenClaim := { program := "ytfkhfkbkjiekkaa", sum := "834187e74f62919603eb370d97980acaeb54d88bbbca455fcce445ede0ea4c1a", func := "loop.example/pub-sortroads/laws.FnExactSearchFunc", spec := "fnExactSearchFunc", unfollowed := true, recurses := true, plainKeys := false, apart := false }
def FnExactSearchFuncSaid : Prop := fnExactSearchFuncRow.holds Try.pinned (OpenSpec.ofChange fnExactSearchFuncSpec)

/-- ITS FALSE NEIGHBOUR: 'it returns false'. Refute it at one input. -/
def fnExactSearchFuncWrong : ChangeSpec := { name := "fnExactSearchFunc", fn := fun _ => fun
  | [d1, d2, d3] => { results := [.lit (.bool false)], args := [d1, d2, d3] }
  | _ => none }
def FnExactSearchFuncWrongFalsely : Prop := fnExactSearchFuncRow.holds Try.pinned (OpenSpec.ofChange fnExactSearchFuncWrong)

/-- 'laws.FnExactSearch': WHATEVER THE INPUT: true; the input reads as it did. -/
def fnExactSearchSpec : ChangeSpec := { name := "fnExactSearch", fn := fun _ => fun
  | [d1, d2] => { results := [.lit (.bool true)], args := [d1, d2] }
  | _ => none }
def fnExactSearchRow : OpenClaim := { program := "ytfkhfkbkjiekkaa", sum := "834187e74f62919603eb370d97980acaeb54d88bbbca455fcce445ede0ea4c1a", func := "loop.example/pub-sortroads/laws.FnExactSearch", spec := "fnExactSearch", plainKeys := false, apart := false }
def FnExactSearchSaid : Prop := fnExactSearchRow.holds Try.pinned (OpenSpec.ofChange fnExactSearchSpec)

/-- ITS FALSE NEIGHBOUR: 'it returns false'. Refute it at one input. -/
def fnExactSearchWrong : ChangeSpec := { name := "fnExactSearch", fn := fun _ => fun
  | [d1, d2] => { results := [.lit (.bool false)], args := [d1, d2] }
  | _ => none }
def FnExactSearchWrongFalsely : Prop := fnExactSearchRow.holds Try.pinned (OpenSpec.ofChange fnExactSearchWrong)

/-- 'laws.FnExactLeast': WHATEVER THE INPUT: true; the input reads as it did. -/
def fnExactLeastSpec : ChangeSpec := { name := "fnExactLeast", fn := fun _ => fun
  | [d1, d2] => { results := [.lit (.bool true)], args := [d1, d2] }
  | _ => none }
def fnExactLeastRow : OpenClaim := { program := "ytfkhfkbkjiekkaa", sum := "834187e74f62919603eb370d97980acaeb54d88bbbca455fcce445ede0ea4c1a", func := "loop.example/pub-sortroads/laws.FnExactLeast", spec := "fnExactLeast", unfollowed := true, recurses := true, plainKeys := false, apart := false }
def FnExactLeastSaid : Prop := fnExactLeastRow.holds Try.pinned (OpenSpec.ofChange fnExactLeastSpec)

/-- ITS FALSE NEIGHBOUR: 'it returns false'. Refute it at one input. -/
def fnExactLeastWrong : ChangeSpec := { name := "fnExactLeast", fn := fun _ => fun
  | [d1, d2] => { results := [.lit (.bool false)], args := [d1, d2] }
  | _ => none }
def FnExactLeastWrongFalsely : Prop := fnExactLeastRow.holds Try.pinned (OpenSpec.ofChange fnExactLeastWrong)

/-- 'laws.FnExactStable': WHATEVER THE INPUT: true; the input reads as it did. -/
def fnExactStableSpec : ChangeSpec := { name := "fnExactStable", fn := fun _ => fun
  | [d1, d2] => { results := [.lit (.bool true)], args := [d1, d2] }
  | _ => none }
def fnExactStableRow : OpenClaim := { program := "ytfkhfkbkjiekkaa", sum := "834187e74f62919603eb370d97980acaeb54d88bbbca455fcce445ede0ea4c1a", func := "loop.example/pub-sortroads/laws.FnExactStable", spec := "fnExactStable", unfollowed := true, recurses := true, plainKeys := false, apart := false }
def FnExactStableSaid : Prop := fnExactStableRow.holds Try.pinned (OpenSpec.ofChange fnExactStableSpec)

/-- ITS FALSE NEIGHBOUR: 'it returns false'. Refute it at one input. -/
def fnExactStableWrong : ChangeSpec := { name := "fnExactStable", fn := fun _ => fun
  | [d1, d2] => { results := [.lit (.bool false)], args := [d1, d2] }
  | _ => none }
def FnExactStableWrongFalsely : Prop := fnExactStableRow.holds Try.pinned (OpenSpec.ofChange fnExactStableWrong)

/-- 'laws.FnSorted': WHATEVER THE INPUT: true; the input reads as it did. -/
def fnSortedSpec : ChangeSpec := { name := "fnSorted", fn := fun _ => fun
  | [d1, d2] => { results := [.lit (.bool true)], args := [d1, d2] }
  | _ => none }
def fnSortedRow : OpenClaim := { program := "ytfkhfkbkjiekkaa", sum := "834187e74f62919603eb370d97980acaeb54d88bbbca455fcce445ede0ea4c1a", func := "loop.example/pub-sortroads/laws.FnSorted", spec := "fnSorted", unfollowed := true, recurses := true, plainKeys := false, apart := false }
def FnSortedSaid : Prop := fnSortedRow.holds Try.pinned (OpenSpec.ofChange fnSortedSpec)

/-- ITS FALSE NEIGHBOUR: 'it returns false'. Refute it at one input. -/
def fnSortedWrong : ChangeSpec := { name := "fnSorted", fn := fun _ => fun
  | [d1, d2] => { results := [.lit (.bool false)], args := [d1, d2] }
  | _ => none }
def FnSortedWrongFalsely : Prop := fnSortedRow.holds Try.pinned (OpenSpec.ofChange fnSortedWrong)

/-- 'laws.FnExactSort': WHATEVER THE INPUT: true; the input reads as it did. -/
def fnExactSortSpec : ChangeSpec := { name := "fnExactSort", fn := fun _ => fun
  | [d] => { results := [.lit (.bool true)], args := [d] }
  | _ => none }
def fnExactSortRow : OpenClaim := { program := "ytfkhfkbkjiekkaa", sum := "834187e74f62919603eb370d97980acaeb54d88bbbca455fcce445ede0ea4c1a", func := "loop.example/pub-sortroads/laws.FnExactSort", spec := "fnExactSort", recurses := true, plainKeys := false, apart := false }
def FnExactSortSaid : Prop := fnExactSortRow.holds Try.pinned (OpenSpec.ofChange fnExactSortSpec)

/-- ITS FALSE NEIGHBOUR: 'it returns false'. Refute it at one input. -/
def fnExactSortWrong : ChangeSpec := { name := "fnExactSort", fn := fun _ => fun
  | [d] => { results := [.lit (.bool false)], args := [d] }
  | _ => none }
def FnExactSortWrongFalsely : Prop := fnExactSortRow.holds Try.pinned (OpenSpec.ofChange fnExactSortWrong)

/-- 'laws.FnWhole': WHATEVER THE INPUT: true; the input reads as it did. -/
def fnWholeSpec : ChangeSpec := { name := "fnWhole", fn := fun _ => fun
  | [d1, d2, d3] => { results := [.lit (.bool true)], args := [d1, d2, d3] }
  | _ => none }
def fnWholeRow : OpenClaim := { program := "ytfkhfkbkjiekkaa", sum := "834187e74f62919603eb370d97980acaeb54d88bbbca455fcce445ede0ea4c1a", func := "loop.example/pub-sortroads/laws.FnWhole", spec := "fnWhole", unfollowed := true, recurses := true, plainKeys := false, apart := false }
def FnWholeSaid : Prop := fnWholeRow.holds Try.pinned (OpenSpec.ofChange fnWholeSpec)

/-- ITS FALSE NEIGHBOUR: 'it returns false'. Refute it at one input. -/
def fnWholeWrong : ChangeSpec := { name := "fnWhole", fn := fun _ => fun
  | [d1, d2, d3] => { results := [.lit (.bool false)], args := [d1, d2, d3] }
  | _ => none }
def FnWholeWrongFalsely : Prop := fnWholeRow.holds Try.pinned (OpenSpec.ofChange fnWholeWrong)

/- THE SECOND FORM. 'bulk': how many values and letters a reading holds, each counted each time it is reached (what is shared counts as often as it is met; a slice's spare places count too). A statement '..UptoSaid' is the law's where the arguments, and the package variables that the reading takes, are together of bulk at most 1048576: NARROWER than '..Said'. Prove '..Said' where nothing that the law and all that it calls make is longer than what came in: it says more and counts as full. Else prove '..UptoSaid'. A law counts once. -/
mutual
def uptoBulk {H : Type} : DataW H → Nat
  | .lit (.string bytes) => bytes.length + 1
  | .lit _ => 1
  | .nil => 1
  | .ptr d => uptoBulk d + 1
  | .slice elems spare => uptoBulkAll elems + uptoBulkAll spare + 1
  | .agg parts => uptoBulkAll parts + 1
  | .iface _ d => uptoBulk d + 1
  | .map entries => uptoBulkEntries entries + 1
  | .held _ => 1
def uptoBulkAll {H : Type} : List (DataW H) → Nat
  | [] => 0
  | d :: r => uptoBulk d + uptoBulkAll r
def uptoBulkEntries {H : Type} : List (Lit × DataW H) → Nat
  | [] => 0
  | x :: r => uptoBulkEntry x + uptoBulkEntries r
def uptoBulkEntry {H : Type} : Lit × DataW H → Nat
  | (.string bytes, d) => bytes.length + uptoBulk d + 1
  | (_, d) => uptoBulk d + 1
 end
def uptoSmall : (H : Type) → List (DataW H) → Bool := fun _ ds => decide (uptoBulkAll ds ≤ 1048576)
def OpenSpec.upto (s : _root_.Go.ChangeSpec) : _root_.Go.OpenSpec := { _root_.Go.OpenSpec.ofChange s with cond := some uptoSmall }

/-- 'laws.FnExactInOrder', WHERE WHAT IT READS IS OF BULK AT MOST 1048576: true; the input reads as it did. -/
def fnExactInOrderUptoRow : OpenClaim := { program := "ytfkhfkbkjiekkaa", sum := "834187e74f62919603eb370d97980acaeb54d88bbbca455fcce445ede0ea4c1a", func := "loop.example/pub-sortroads/laws.FnExactInOrder", spec := "fnExactInOrder", unfollowed := true, recurses := true, plainKeys := false, apart := false, narrowed := true }
def FnExactInOrderUptoSaid : Prop := fnExactInOrderUptoRow.holds Try.pinned (OpenSpec.upto fnExactInOrderSpec)

/-- 'laws.FnExactRising', WHERE WHAT IT READS IS OF BULK AT MOST 1048576: true; the input reads as it did. -/
def fnExactRisingUptoRow : OpenClaim := { program := "ytfkhfkbkjiekkaa", sum := "834187e74f62919603eb370d97980acaeb54d88bbbca455fcce445ede0ea4c1a", func := "loop.example/pub-sortroads/laws.FnExactRising", spec := "fnExactRising", plainKeys := false, apart := false, narrowed := true }
def FnExactRisingUptoSaid : Prop := fnExactRisingUptoRow.holds Try.pinned (OpenSpec.upto fnExactRisingSpec)

/-- 'laws.FnExactSearchFunc', WHERE WHAT IT READS IS OF BULK AT MOST 1048576: true; the input reads as it did. -/
def fnExactSearchFuncUptoRow : OpenClaim := { program := "ytfkhfkbkjiekkaa", sum := "834187e74f62919603eb370d97980acaeb54d88bbbca455fcce445ede0ea4c1a", func := "loop.example/pub-sortroads/laws.FnExactSearchFunc", spec := "fnExactSearchFunc", unfollowed := true, recurses := true, plainKeys := false, apart := false, narrowed := true }
def FnExactSearchFuncUptoSaid : Prop := fnExactSearchFuncUptoRow.holds Try.pinned (OpenSpec.upto fnExactSearchFuncSpec)

/-- 'laws.FnExactSearch', WHERE WHAT IT READS IS OF BULK AT MOST 1048576: true; the input reads as it did. -/
def fnExactSearchUptoRow : OpenClaim := { program := "ytfkhfkbkjiekkaa", sum := "834187e74f62919603eb370d97980acaeb54d88bbbca455fcce445ede0ea4c1a", func := "loop.example/pub-sortroads/laws.FnExactSearch", spec := "fnExactSearch", plainKeys := false, apart := false, narrowed := true }
def FnExactSearchUptoSaid : Prop := fnExactSearchUptoRow.holds Try.pinned (OpenSpec.upto fnExactSearchSpec)

/-- 'laws.FnExactLeast', WHERE WHAT IT READS IS OF BULK AT MOST 1048576: true; the input reads as it did. -/
def fnExactLeastUptoRow : OpenClaim := { program := "ytfkhfkbkjiekkaa", sum := "834187e74f62919603eb370d97980acaeb54d88bbbca455fcce445ede0ea4c1a", func := "loop.example/pub-sortroads/laws.FnExactLeast", spec := "fnExactLeast", unfollowed := true, recurses := true, plainKeys := false, apart := false, narrowed := true }
def FnExactLeastUptoSaid : Prop := fnExactLeastUptoRow.holds Try.pinned (OpenSpec.upto fnExactLeastSpec)

/-- 'laws.FnExactStable', WHERE WHAT IT READS IS OF BULK AT MOST 1048576: true; the input reads as it did. -/
def fnExactStableUptoRow : OpenClaim := { program := "ytfkhfkbkjiekkaa", sum := "834187e74f62919603eb370d97980acaeb54d88bbbca455fcce445ede0ea4c1a", func := "loop.example/pub-sortroads/laws.FnExactStable", spec := "fnExactStable", unfollowed := true, recurses := true, plainKeys := false, apart := false, narrowed := true }
def FnExactStableUptoSaid : Prop := fnExactStableUptoRow.holds Try.pinned (OpenSpec.upto fnExactStableSpec)

/-- 'laws.FnSorted', WHERE WHAT IT READS IS OF BULK AT MOST 1048576: true; the input reads as it did. -/
def fnSortedUptoRow : OpenClaim := { program := "ytfkhfkbkjiekkaa", sum := "834187e74f62919603eb370d97980acaeb54d88bbbca455fcce445ede0ea4c1a", func := "loop.example/pub-sortroads/laws.FnSorted", spec := "fnSorted", unfollowed := true, recurses := true, plainKeys := false, apart := false, narrowed := true }
def FnSortedUptoSaid : Prop := fnSortedUptoRow.holds Try.pinned (OpenSpec.upto fnSortedSpec)

/-- 'laws.FnExactSort', WHERE WHAT IT READS IS OF BULK AT MOST 1048576: true; the input reads as it did. -/
def fnExactSortUptoRow : OpenClaim := { program := "ytfkhfkbkjiekkaa", sum := "834187e74f62919603eb370d97980acaeb54d88bbbca455fcce445ede0ea4c1a", func := "loop.example/pub-sortroads/laws.FnExactSort", spec := "fnExactSort", recurses := true, plainKeys := false, apart := false, narrowed := true }
def FnExactSortUptoSaid : Prop := fnExactSortUptoRow.holds Try.pinned (OpenSpec.upto fnExactSortSpec)

/-- 'laws.FnWhole', WHERE WHAT IT READS IS OF BULK AT MOST 1048576: true; the input reads as it did. -/
def fnWholeUptoRow : OpenClaim := { program := "ytfkhfkbkjiekkaa", sum := "834187e74f62919603eb370d97980acaeb54d88bbbca455fcce445ede0ea4c1a", func := "loop.example/pub-sortroads/laws.FnWhole", spec := "fnWhole", unfollowed := true, recurses := true, plainKeys := false, apart := false, narrowed := true }
def FnWholeUptoSaid : Prop := fnWholeUptoRow.holds Try.pinned (OpenSpec.upto fnWholeSpec)

end Rows
end Go.Proofs.Ytfkhfkbkjiekkaa
