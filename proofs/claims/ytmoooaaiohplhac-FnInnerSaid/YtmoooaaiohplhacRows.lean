/-
  No cell of these rows narrows 'for every input' (looked for: loops, veiled, ifaces, maps, wideKeys, modest, calm, conditions, laid).
  DERIVED. THE GIVEN ROWS OF THIS SEAT. 9 by the template 'for every input the law returns true; each argument reads behind the call as it read before'; 0 by the template 'total and deterministic' (their statements: YtmoooaaiohplhacTotals.lean).
  GIVEN WITH THE SEED: the statements are not yours to turn. If you find one false, say at which input.
  Laid BY PROGRAM, IN A SANDBOX (cutbox-rows.mjs): the forced cells as the released guide's own fill.sh prints them over the translation b8568c9e028aba7c… (all of the seat's roots in one cut). By AI agents, Wed Nov 11 2026. No macro, syntax, notation, axiom, sorry.
-/
import Derived.Test.YtmoooaaiohplhacChecked
import GoSem.Claim
import GoSem.ClaimJoined
import GoSem.ClaimMapViews
import Derived.JoinedTies
import Derived.KernelRfl
namespace Go.Proofs.Ytmoooaaiohplhac
/- THE CELL 'sum', in the pinned program and in every row, IS THE sha256 OF THE DUMP (.gsa) THAT YtmoooaaiohplhacProg.lean LOADS. Nothing in Lean hashes anything: it is a label: what it is worth is what the hold of that sum in a sandbox is worth. -/
noncomputable def Try.pinned : Pinned := { name := "ytmoooaaiohplhac", sum := "b8568c9e028aba7c8cbfca888eb1751b6259569d6690382150c1aa65c2308df8", checked := Try.checked }
namespace Rows
def none {H : Type} : Left H := { results := [], args := [] }

/-- 'laws.FnTreeOrder': WHATEVER THE INPUT: true; the input reads as it did. -/
def fnTreeOrderSpec : ChangeSpec := { name := "fnTreeOrder", fn := fun _ => fun
  | [d1, d2] => { results := [.lit (.bool true)], args := [d1, d2] }
  | _ => none }
def fnTreeOrderRow : OpenClaim := { program := "ytmoooaaiohplhac", sum := "b8568c9e028aba7c8cbfca888eb1751b6259569d6690382150c1aa65c2308df8", func := "loop.example/pub-dominatorsandloops/laws.FnTreeOrder", spec := "fnTreeOrder", recurses := true, apart := false }
def FnTreeOrderSaid : Prop := fnTreeOrderRow.holds Try.pinned (OpenSpec.ofChange fnTreeOrderSpec)

/-- ITS FALSE NEIGHBOUR: 'it returns false'. Refute it at one input. -/
def fnTreeOrderWrong : ChangeSpec := { name := "fnTreeOrder", fn := fun _ => fun
  | [d1, d2] => { results := [.lit (.bool false)], args := [d1, d2] }
  | _ => none }
def FnTreeOrderWrongFalsely : Prop := fnTreeOrderRow.holds Try.pinned (OpenSpec.ofChange fnTreeOrderWrong)

/-- 'laws.FnTwoRoads': WHATEVER THE INPUT: true; the input reads as it did. -/
def fnTwoRoadsSpec : ChangeSpec := { name := "fnTwoRoads", fn := fun _ => fun
  | [d] => { results := [.lit (.bool true)], args := [d] }
  | _ => none }
def fnTwoRoadsRow : OpenClaim := { program := "ytmoooaaiohplhac", sum := "b8568c9e028aba7c8cbfca888eb1751b6259569d6690382150c1aa65c2308df8", func := "loop.example/pub-dominatorsandloops/laws.FnTwoRoads", spec := "fnTwoRoads", recurses := true, apart := false }
def FnTwoRoadsSaid : Prop := fnTwoRoadsRow.holds Try.pinned (OpenSpec.ofChange fnTwoRoadsSpec)

/-- ITS FALSE NEIGHBOUR: 'it returns false'. Refute it at one input. -/
def fnTwoRoadsWrong : ChangeSpec := { name := "fnTwoRoads", fn := fun _ => fun
  | [d] => { results := [.lit (.bool false)], args := [d] }
  | _ => none }
def FnTwoRoadsWrongFalsely : Prop := fnTwoRoadsRow.holds Try.pinned (OpenSpec.ofChange fnTwoRoadsWrong)

/-- 'laws.FnCounts': WHATEVER THE INPUT: true; the input reads as it did. -/
def fnCountsSpec : ChangeSpec := { name := "fnCounts", fn := fun _ => fun
  | [d] => { results := [.lit (.bool true)], args := [d] }
  | _ => none }
def fnCountsRow : OpenClaim := { program := "ytmoooaaiohplhac", sum := "b8568c9e028aba7c8cbfca888eb1751b6259569d6690382150c1aa65c2308df8", func := "loop.example/pub-dominatorsandloops/laws.FnCounts", spec := "fnCounts", unfollowed := true, recurses := true, apart := false }
def FnCountsSaid : Prop := fnCountsRow.holds Try.pinned (OpenSpec.ofChange fnCountsSpec)

/-- ITS FALSE NEIGHBOUR: 'it returns false'. Refute it at one input. -/
def fnCountsWrong : ChangeSpec := { name := "fnCounts", fn := fun _ => fun
  | [d] => { results := [.lit (.bool false)], args := [d] }
  | _ => none }
def FnCountsWrongFalsely : Prop := fnCountsRow.holds Try.pinned (OpenSpec.ofChange fnCountsWrong)

/-- 'laws.FnDepths': WHATEVER THE INPUT: true; the input reads as it did. -/
def fnDepthsSpec : ChangeSpec := { name := "fnDepths", fn := fun _ => fun
  | [d] => { results := [.lit (.bool true)], args := [d] }
  | _ => none }
def fnDepthsRow : OpenClaim := { program := "ytmoooaaiohplhac", sum := "b8568c9e028aba7c8cbfca888eb1751b6259569d6690382150c1aa65c2308df8", func := "loop.example/pub-dominatorsandloops/laws.FnDepths", spec := "fnDepths", unfollowed := true, recurses := true, apart := false }
def FnDepthsSaid : Prop := fnDepthsRow.holds Try.pinned (OpenSpec.ofChange fnDepthsSpec)

/-- ITS FALSE NEIGHBOUR: 'it returns false'. Refute it at one input. -/
def fnDepthsWrong : ChangeSpec := { name := "fnDepths", fn := fun _ => fun
  | [d] => { results := [.lit (.bool false)], args := [d] }
  | _ => none }
def FnDepthsWrongFalsely : Prop := fnDepthsRow.holds Try.pinned (OpenSpec.ofChange fnDepthsWrong)

/-- 'laws.FnEntered': WHATEVER THE INPUT: true; the input reads as it did. -/
def fnEnteredSpec : ChangeSpec := { name := "fnEntered", fn := fun _ => fun
  | [d] => { results := [.lit (.bool true)], args := [d] }
  | _ => none }
def fnEnteredRow : OpenClaim := { program := "ytmoooaaiohplhac", sum := "b8568c9e028aba7c8cbfca888eb1751b6259569d6690382150c1aa65c2308df8", func := "loop.example/pub-dominatorsandloops/laws.FnEntered", spec := "fnEntered", unfollowed := true, recurses := true, apart := false }
def FnEnteredSaid : Prop := fnEnteredRow.holds Try.pinned (OpenSpec.ofChange fnEnteredSpec)

/-- ITS FALSE NEIGHBOUR: 'it returns false'. Refute it at one input. -/
def fnEnteredWrong : ChangeSpec := { name := "fnEntered", fn := fun _ => fun
  | [d] => { results := [.lit (.bool false)], args := [d] }
  | _ => none }
def FnEnteredWrongFalsely : Prop := fnEnteredRow.holds Try.pinned (OpenSpec.ofChange fnEnteredWrong)

/-- 'laws.FnHeaders': WHATEVER THE INPUT: true; the input reads as it did. -/
def fnHeadersSpec : ChangeSpec := { name := "fnHeaders", fn := fun _ => fun
  | [d1, d2] => { results := [.lit (.bool true)], args := [d1, d2] }
  | _ => none }
def fnHeadersRow : OpenClaim := { program := "ytmoooaaiohplhac", sum := "b8568c9e028aba7c8cbfca888eb1751b6259569d6690382150c1aa65c2308df8", func := "loop.example/pub-dominatorsandloops/laws.FnHeaders", spec := "fnHeaders", unfollowed := true, recurses := true, apart := false }
def FnHeadersSaid : Prop := fnHeadersRow.holds Try.pinned (OpenSpec.ofChange fnHeadersSpec)

/-- ITS FALSE NEIGHBOUR: 'it returns false'. Refute it at one input. -/
def fnHeadersWrong : ChangeSpec := { name := "fnHeaders", fn := fun _ => fun
  | [d1, d2] => { results := [.lit (.bool false)], args := [d1, d2] }
  | _ => none }
def FnHeadersWrongFalsely : Prop := fnHeadersRow.holds Try.pinned (OpenSpec.ofChange fnHeadersWrong)

/-- 'laws.FnInner': WHATEVER THE INPUT: true; the input reads as it did. -/
def fnInnerSpec : ChangeSpec := { name := "fnInner", fn := fun _ => fun
  | [d] => { results := [.lit (.bool true)], args := [d] }
  | _ => none }
def fnInnerRow : OpenClaim := { program := "ytmoooaaiohplhac", sum := "b8568c9e028aba7c8cbfca888eb1751b6259569d6690382150c1aa65c2308df8", func := "loop.example/pub-dominatorsandloops/laws.FnInner", spec := "fnInner", unfollowed := true, recurses := true, apart := false }
def FnInnerSaid : Prop := fnInnerRow.holds Try.pinned (OpenSpec.ofChange fnInnerSpec)

/-- ITS FALSE NEIGHBOUR: 'it returns false'. Refute it at one input. -/
def fnInnerWrong : ChangeSpec := { name := "fnInner", fn := fun _ => fun
  | [d] => { results := [.lit (.bool false)], args := [d] }
  | _ => none }
def FnInnerWrongFalsely : Prop := fnInnerRow.holds Try.pinned (OpenSpec.ofChange fnInnerWrong)

/-- 'laws.FnInnermost': WHATEVER THE INPUT: true; the input reads as it did. -/
def fnInnermostSpec : ChangeSpec := { name := "fnInnermost", fn := fun _ => fun
  | [d] => { results := [.lit (.bool true)], args := [d] }
  | _ => none }
def fnInnermostRow : OpenClaim := { program := "ytmoooaaiohplhac", sum := "b8568c9e028aba7c8cbfca888eb1751b6259569d6690382150c1aa65c2308df8", func := "loop.example/pub-dominatorsandloops/laws.FnInnermost", spec := "fnInnermost", unfollowed := true, recurses := true, apart := false }
def FnInnermostSaid : Prop := fnInnermostRow.holds Try.pinned (OpenSpec.ofChange fnInnermostSpec)

/-- ITS FALSE NEIGHBOUR: 'it returns false'. Refute it at one input. -/
def fnInnermostWrong : ChangeSpec := { name := "fnInnermost", fn := fun _ => fun
  | [d] => { results := [.lit (.bool false)], args := [d] }
  | _ => none }
def FnInnermostWrongFalsely : Prop := fnInnermostRow.holds Try.pinned (OpenSpec.ofChange fnInnermostWrong)

/-- 'laws.FnIrreducible': WHATEVER THE INPUT: true; the input reads as it did. -/
def fnIrreducibleSpec : ChangeSpec := { name := "fnIrreducible", fn := fun _ => fun
  | [d] => { results := [.lit (.bool true)], args := [d] }
  | _ => none }
def fnIrreducibleRow : OpenClaim := { program := "ytmoooaaiohplhac", sum := "b8568c9e028aba7c8cbfca888eb1751b6259569d6690382150c1aa65c2308df8", func := "loop.example/pub-dominatorsandloops/laws.FnIrreducible", spec := "fnIrreducible", unfollowed := true, recurses := true, apart := false }
def FnIrreducibleSaid : Prop := fnIrreducibleRow.holds Try.pinned (OpenSpec.ofChange fnIrreducibleSpec)

/-- ITS FALSE NEIGHBOUR: 'it returns false'. Refute it at one input. -/
def fnIrreducibleWrong : ChangeSpec := { name := "fnIrreducible", fn := fun _ => fun
  | [d] => { results := [.lit (.bool false)], args := [d] }
  | _ => none }
def FnIrreducibleWrongFalsely : Prop := fnIrreducibleRow.holds Try.pinned (OpenSpec.ofChange fnIrreducibleWrong)

/- THE SECOND FORM. 'bulk': how many values and letters a reading holds, each counted each time it is reached (what is shared counts as often as it is met; a slice's spare places count too). A statement '..UptoSaid' is the law's where the arguments, and the package variables that the reading takes, are together of bulk at most 1048576: NARROWER than '..Said'. Prove '..Said' where nothing that the law and all that it calls make is longer than what came in: it says more and counts as full. Else prove '..UptoSaid'. A law counts once. -/
mutual
def uptoBulk {H : Type} : DataW H → Nat
  | .lit (.string bytes) => bytes.length + 1
  | .lit _ => 1
  | .nil => 1
  | .ptr d => uptoBulk d + 1
  | .slice elems spare => uptoBulkAll elems + uptoBulkAll spare + 1
  | .agg parts => uptoBulkAll parts + 1
  | .iface _ d => uptoBulk d + 1
  | .map entries => uptoBulkEntries entries + 1
  | .held _ => 1
def uptoBulkAll {H : Type} : List (DataW H) → Nat
  | [] => 0
  | d :: r => uptoBulk d + uptoBulkAll r
def uptoBulkEntries {H : Type} : List (Lit × DataW H) → Nat
  | [] => 0
  | x :: r => uptoBulkEntry x + uptoBulkEntries r
def uptoBulkEntry {H : Type} : Lit × DataW H → Nat
  | (.string bytes, d) => bytes.length + uptoBulk d + 1
  | (_, d) => uptoBulk d + 1
 end
def uptoSmall : (H : Type) → List (DataW H) → Bool := fun _ ds => decide (uptoBulkAll ds ≤ 1048576)
def OpenSpec.upto (s : _root_.Go.ChangeSpec) : _root_.Go.OpenSpec := { _root_.Go.OpenSpec.ofChange s with cond := some uptoSmall }

/-- 'laws.FnTreeOrder', WHERE WHAT IT READS IS OF BULK AT MOST 1048576: true; the input reads as it did. -/
def fnTreeOrderUptoRow : OpenClaim := { program := "ytmoooaaiohplhac", sum := "b8568c9e028aba7c8cbfca888eb1751b6259569d6690382150c1aa65c2308df8", func := "loop.example/pub-dominatorsandloops/laws.FnTreeOrder", spec := "fnTreeOrder", recurses := true, apart := false, narrowed := true }
def FnTreeOrderUptoSaid : Prop := fnTreeOrderUptoRow.holds Try.pinned (OpenSpec.upto fnTreeOrderSpec)

/-- 'laws.FnTwoRoads', WHERE WHAT IT READS IS OF BULK AT MOST 1048576: true; the input reads as it did. -/
def fnTwoRoadsUptoRow : OpenClaim := { program := "ytmoooaaiohplhac", sum := "b8568c9e028aba7c8cbfca888eb1751b6259569d6690382150c1aa65c2308df8", func := "loop.example/pub-dominatorsandloops/laws.FnTwoRoads", spec := "fnTwoRoads", recurses := true, apart := false, narrowed := true }
def FnTwoRoadsUptoSaid : Prop := fnTwoRoadsUptoRow.holds Try.pinned (OpenSpec.upto fnTwoRoadsSpec)

/-- 'laws.FnCounts', WHERE WHAT IT READS IS OF BULK AT MOST 1048576: true; the input reads as it did. -/
def fnCountsUptoRow : OpenClaim := { program := "ytmoooaaiohplhac", sum := "b8568c9e028aba7c8cbfca888eb1751b6259569d6690382150c1aa65c2308df8", func := "loop.example/pub-dominatorsandloops/laws.FnCounts", spec := "fnCounts", unfollowed := true, recurses := true, apart := false, narrowed := true }
def FnCountsUptoSaid : Prop := fnCountsUptoRow.holds Try.pinned (OpenSpec.upto fnCountsSpec)

/-- 'laws.FnDepths', WHERE WHAT IT READS IS OF BULK AT MOST 1048576: true; the input reads as it did. -/
def fnDepthsUptoRow : OpenClaim := { program := "ytmoooaaiohplhac", sum := "b8568c9e028aba7c8cbfca888eb1751b6259569d6690382150c1aa65c2308df8", func := "loop.example/pub-dominatorsandloops/laws.FnDepths", spec := "fnDepths", unfollowed := true, recurses := true, apart := false, narrowed := true }
def FnDepthsUptoSaid : Prop := fnDepthsUptoRow.holds Try.pinned (OpenSpec.upto fnDepthsSpec)

/-- 'laws.FnEntered', WHERE WHAT IT READS IS OF BULK AT MOST 1048576: true; the input reads as it did. -/
def fnEnteredUptoRow : OpenClaim := { program := "ytmoooaaiohplhac", sum := "b8568c9e028aba7c8cbfca888eb1751b6259569d6690382150c1aa65c2308df8", func := "loop.example/pub-dominatorsandloops/laws.FnEntered", spec := "fnEntered", unfollowed := true, recurses := true, apart := false, narrowed := true }
def FnEnteredUptoSaid : Prop := fnEnteredUptoRow.holds Try.pinned (OpenSpec.upto fnEnteredSpec)

/-- 'laws.FnHeaders', WHERE WHAT IT READS IS OF BULK AT MOST 1048576: true; the input reads as it did. -/
def fnHeadersUptoRow : OpenClaim := { program := "ytmoooaaiohplhac", sum := "b8568c9e028aba7c8cbfca888eb1751b6259569d6690382150c1aa65c2308df8", func := "loop.example/pub-dominatorsandloops/laws.FnHeaders", spec := "fnHeaders", unfollowed := true, recurses := true, apart := false, narrowed := true }
def FnHeadersUptoSaid : Prop := fnHeadersUptoRow.holds Try.pinned (OpenSpec.upto fnHeadersSpec)

/-- 'laws.FnInner', WHERE WHAT IT READS IS OF BULK AT MOST 1048576: true; the input reads as it did. -/
def fnInnerUptoRow : OpenClaim := { program := "ytmoooaaiohplhac", sum := "b8568c9e028aba7c8cbfca888eb1751b6259569d6690382150c1aa65c2308df8", func := "loop.example/pub-dominatorsandloops/laws.FnInner", spec := "fnInner", unfollowed := true, recurses := true, apart := false, narrowed := true }
def FnInnerUptoSaid : Prop := fnInnerUptoRow.holds Try.pinned (OpenSpec.upto fnInnerSpec)

/-- 'laws.FnInnermost', WHERE WHAT IT READS IS OF BULK AT MOST 1048576: true; the input reads as it did. -/
def fnInnermostUptoRow : OpenClaim := { program := "ytmoooaaiohplhac", sum := "b8568c9e028aba7c8cbfca888eb1751b6259569d6690382150c1aa65c2308df8", func := "loop.example/pub-dominatorsandloops/laws.FnInnermost", spec := "fnInnermost", unfollowed := true, recurses := true, apart := false, narrowed := true }
def FnInnermostUptoSaid : Prop := fnInnermostUptoRow.holds Try.pinned (OpenSpec.upto fnInnermostSpec)

/-- 'laws.FnIrreducible', WHERE WHAT IT READS IS OF BULK AT MOST 1048576: true; the input reads as it did. -/
def fnIrreducibleUptoRow : OpenClaim := { program := "ytmoooaaiohplhac", sum := "b8568c9e028aba7c8cbfca888eb1751b6259569d6690382150c1aa65c2308df8", func := "loop.example/pub-dominatorsandloops/laws.FnIrreducible", spec := "fnIrreducible", unfollowed := true, recurses := true, apart := false, narrowed := true }
def FnIrreducibleUptoSaid : Prop := fnIrreducibleUptoRow.holds Try.pinned (OpenSpec.upto fnIrreducibleSpec)

end Rows
end Go.Proofs.Ytmoooaaiohplhac
