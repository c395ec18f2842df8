/-
  No cell of these rows narrows 'for every input' (looked for: loops, veiled, ifaces, maps, wideKeys, modest, calm, conditions, laid).
  DERIVED. THE GIVEN ROWS OF THIS SEAT. 12 by the template 'for every input the law returns true; each argument reads behind the call as it read before'; 0 by the template 'total and deterministic' (their statements: YtmoooaaiohplhaaTotals.lean).
  GIVEN WITH THE SEED: the statements are not yours to turn. If you find one false, say at which input.
  Laid BY PROGRAM, IN A SANDBOX (cutbox-rows.mjs): the forced cells as the released guide's own fill.sh prints them over the translation f9459b4d6037f804… (all of the seat's roots in one cut). By AI agents, Wed Nov 11 2026. No macro, syntax, notation, axiom, sorry.
-/
import Derived.Test.YtmoooaaiohplhaaChecked
import GoSem.Claim
import GoSem.ClaimJoined
import GoSem.ClaimMapViews
import Derived.JoinedTies
import Derived.KernelRfl
namespace Go.Proofs.Ytmoooaaiohplhaa
/- THE CELL 'sum', in the pinned program and in every row, IS THE sha256 OF THE DUMP (.gsa) THAT YtmoooaaiohplhaaProg.lean LOADS. Nothing in Lean hashes anything: it is a label: what it is worth is what the hold of that sum in a sandbox is worth. -/
noncomputable def Try.pinned : Pinned := { name := "ytmoooaaiohplhaa", sum := "f9459b4d6037f80466dee47a236c1dc0bd58f537a08d5c0116302b9dd4a54ef7", checked := Try.checked }
namespace Rows
def none {H : Type} : Left H := { results := [], args := [] }

/-- 'laws.FnPostorder': WHATEVER THE INPUT: true; the input reads as it did. -/
def fnPostorderSpec : ChangeSpec := { name := "fnPostorder", fn := fun _ => fun
  | [d] => { results := [.lit (.bool true)], args := [d] }
  | _ => none }
def fnPostorderRow : OpenClaim := { program := "ytmoooaaiohplhaa", sum := "f9459b4d6037f80466dee47a236c1dc0bd58f537a08d5c0116302b9dd4a54ef7", func := "loop.example/pub-dominatorsandloops/laws.FnPostorder", spec := "fnPostorder", apart := false }
def FnPostorderSaid : Prop := fnPostorderRow.holds Try.pinned (OpenSpec.ofChange fnPostorderSpec)

/-- ITS FALSE NEIGHBOUR: 'it returns false'. Refute it at one input. -/
def fnPostorderWrong : ChangeSpec := { name := "fnPostorder", fn := fun _ => fun
  | [d] => { results := [.lit (.bool false)], args := [d] }
  | _ => none }
def FnPostorderWrongFalsely : Prop := fnPostorderRow.holds Try.pinned (OpenSpec.ofChange fnPostorderWrong)

/-- 'laws.FnPostorderForward': WHATEVER THE INPUT: true; the input reads as it did. -/
def fnPostorderForwardSpec : ChangeSpec := { name := "fnPostorderForward", fn := fun _ => fun
  | [d] => { results := [.lit (.bool true)], args := [d] }
  | _ => none }
def fnPostorderForwardRow : OpenClaim := { program := "ytmoooaaiohplhaa", sum := "f9459b4d6037f80466dee47a236c1dc0bd58f537a08d5c0116302b9dd4a54ef7", func := "loop.example/pub-dominatorsandloops/laws.FnPostorderForward", spec := "fnPostorderForward", apart := false }
def FnPostorderForwardSaid : Prop := fnPostorderForwardRow.holds Try.pinned (OpenSpec.ofChange fnPostorderForwardSpec)

/-- ITS FALSE NEIGHBOUR: 'it returns false'. Refute it at one input. -/
def fnPostorderForwardWrong : ChangeSpec := { name := "fnPostorderForward", fn := fun _ => fun
  | [d] => { results := [.lit (.bool false)], args := [d] }
  | _ => none }
def FnPostorderForwardWrongFalsely : Prop := fnPostorderForwardRow.holds Try.pinned (OpenSpec.ofChange fnPostorderForwardWrong)

/-- 'laws.FnPostorderNumbers': WHATEVER THE INPUT: true; the input reads as it did. -/
def fnPostorderNumbersSpec : ChangeSpec := { name := "fnPostorderNumbers", fn := fun _ => fun
  | [d] => { results := [.lit (.bool true)], args := [d] }
  | _ => none }
def fnPostorderNumbersRow : OpenClaim := { program := "ytmoooaaiohplhaa", sum := "f9459b4d6037f80466dee47a236c1dc0bd58f537a08d5c0116302b9dd4a54ef7", func := "loop.example/pub-dominatorsandloops/laws.FnPostorderNumbers", spec := "fnPostorderNumbers", apart := false }
def FnPostorderNumbersSaid : Prop := fnPostorderNumbersRow.holds Try.pinned (OpenSpec.ofChange fnPostorderNumbersSpec)

/-- ITS FALSE NEIGHBOUR: 'it returns false'. Refute it at one input. -/
def fnPostorderNumbersWrong : ChangeSpec := { name := "fnPostorderNumbers", fn := fun _ => fun
  | [d] => { results := [.lit (.bool false)], args := [d] }
  | _ => none }
def FnPostorderNumbersWrongFalsely : Prop := fnPostorderNumbersRow.holds Try.pinned (OpenSpec.ofChange fnPostorderNumbersWrong)

/-- 'laws.FnLoops': WHATEVER THE INPUT: true; the input reads as it did. -/
def fnLoopsSpec : ChangeSpec := { name := "fnLoops", fn := fun _ => fun
  | [d] => { results := [.lit (.bool true)], args := [d] }
  | _ => none }
def fnLoopsRow : OpenClaim := { program := "ytmoooaaiohplhaa", sum := "f9459b4d6037f80466dee47a236c1dc0bd58f537a08d5c0116302b9dd4a54ef7", func := "loop.example/pub-dominatorsandloops/laws.FnLoops", spec := "fnLoops", unfollowed := true, recurses := true, apart := false }
def FnLoopsSaid : Prop := fnLoopsRow.holds Try.pinned (OpenSpec.ofChange fnLoopsSpec)

/-- ITS FALSE NEIGHBOUR: 'it returns false'. Refute it at one input. -/
def fnLoopsWrong : ChangeSpec := { name := "fnLoops", fn := fun _ => fun
  | [d] => { results := [.lit (.bool false)], args := [d] }
  | _ => none }
def FnLoopsWrongFalsely : Prop := fnLoopsRow.holds Try.pinned (OpenSpec.ofChange fnLoopsWrong)

/-- 'laws.FnTreeOf': WHATEVER THE INPUT: true; the input reads as it did. -/
def fnTreeOfSpec : ChangeSpec := { name := "fnTreeOf", fn := fun _ => fun
  | [d1, d2] => { results := [.lit (.bool true)], args := [d1, d2] }
  | _ => none }
def fnTreeOfRow : OpenClaim := { program := "ytmoooaaiohplhaa", sum := "f9459b4d6037f80466dee47a236c1dc0bd58f537a08d5c0116302b9dd4a54ef7", func := "loop.example/pub-dominatorsandloops/laws.FnTreeOf", spec := "fnTreeOf", recurses := true, apart := false }
def FnTreeOfSaid : Prop := fnTreeOfRow.holds Try.pinned (OpenSpec.ofChange fnTreeOfSpec)

/-- ITS FALSE NEIGHBOUR: 'it returns false'. Refute it at one input. -/
def fnTreeOfWrong : ChangeSpec := { name := "fnTreeOf", fn := fun _ => fun
  | [d1, d2] => { results := [.lit (.bool false)], args := [d1, d2] }
  | _ => none }
def FnTreeOfWrongFalsely : Prop := fnTreeOfRow.holds Try.pinned (OpenSpec.ofChange fnTreeOfWrong)

/-- 'laws.FnDominatorsSimple': WHATEVER THE INPUT: true; the input reads as it did. -/
def fnDominatorsSimpleSpec : ChangeSpec := { name := "fnDominatorsSimple", fn := fun _ => fun
  | [d] => { results := [.lit (.bool true)], args := [d] }
  | _ => none }
def fnDominatorsSimpleRow : OpenClaim := { program := "ytmoooaaiohplhaa", sum := "f9459b4d6037f80466dee47a236c1dc0bd58f537a08d5c0116302b9dd4a54ef7", func := "loop.example/pub-dominatorsandloops/laws.FnDominatorsSimple", spec := "fnDominatorsSimple", apart := false }
def FnDominatorsSimpleSaid : Prop := fnDominatorsSimpleRow.holds Try.pinned (OpenSpec.ofChange fnDominatorsSimpleSpec)

/-- ITS FALSE NEIGHBOUR: 'it returns false'. Refute it at one input. -/
def fnDominatorsSimpleWrong : ChangeSpec := { name := "fnDominatorsSimple", fn := fun _ => fun
  | [d] => { results := [.lit (.bool false)], args := [d] }
  | _ => none }
def FnDominatorsSimpleWrongFalsely : Prop := fnDominatorsSimpleRow.holds Try.pinned (OpenSpec.ofChange fnDominatorsSimpleWrong)

/-- 'laws.FnEachWay': WHATEVER THE INPUT: true; the input reads as it did. -/
def fnEachWaySpec : ChangeSpec := { name := "fnEachWay", fn := fun _ => fun
  | [d1, d2] => { results := [.lit (.bool true)], args := [d1, d2] }
  | _ => none }
def fnEachWayRow : OpenClaim := { program := "ytmoooaaiohplhaa", sum := "f9459b4d6037f80466dee47a236c1dc0bd58f537a08d5c0116302b9dd4a54ef7", func := "loop.example/pub-dominatorsandloops/laws.FnEachWay", spec := "fnEachWay", apart := false }
def FnEachWaySaid : Prop := fnEachWayRow.holds Try.pinned (OpenSpec.ofChange fnEachWaySpec)

/-- ITS FALSE NEIGHBOUR: 'it returns false'. Refute it at one input. -/
def fnEachWayWrong : ChangeSpec := { name := "fnEachWay", fn := fun _ => fun
  | [d1, d2] => { results := [.lit (.bool false)], args := [d1, d2] }
  | _ => none }
def FnEachWayWrongFalsely : Prop := fnEachWayRow.holds Try.pinned (OpenSpec.ofChange fnEachWayWrong)

/-- 'laws.FnNoLoop': WHATEVER THE INPUT: true; the input reads as it did. -/
def fnNoLoopSpec : ChangeSpec := { name := "fnNoLoop", fn := fun _ => fun
  | [d] => { results := [.lit (.bool true)], args := [d] }
  | _ => none }
def fnNoLoopRow : OpenClaim := { program := "ytmoooaaiohplhaa", sum := "f9459b4d6037f80466dee47a236c1dc0bd58f537a08d5c0116302b9dd4a54ef7", func := "loop.example/pub-dominatorsandloops/laws.FnNoLoop", spec := "fnNoLoop", unfollowed := true, recurses := true, apart := false }
def FnNoLoopSaid : Prop := fnNoLoopRow.holds Try.pinned (OpenSpec.ofChange fnNoLoopSpec)

/-- ITS FALSE NEIGHBOUR: 'it returns false'. Refute it at one input. -/
def fnNoLoopWrong : ChangeSpec := { name := "fnNoLoop", fn := fun _ => fun
  | [d] => { results := [.lit (.bool false)], args := [d] }
  | _ => none }
def FnNoLoopWrongFalsely : Prop := fnNoLoopRow.holds Try.pinned (OpenSpec.ofChange fnNoLoopWrong)

/-- 'laws.FnTwice': WHATEVER THE INPUT: true; the input reads as it did. -/
def fnTwiceSpec : ChangeSpec := { name := "fnTwice", fn := fun _ => fun
  | [d1, d2, d3] => { results := [.lit (.bool true)], args := [d1, d2, d3] }
  | _ => none }
def fnTwiceRow : OpenClaim := { program := "ytmoooaaiohplhaa", sum := "f9459b4d6037f80466dee47a236c1dc0bd58f537a08d5c0116302b9dd4a54ef7", func := "loop.example/pub-dominatorsandloops/laws.FnTwice", spec := "fnTwice", apart := false }
def FnTwiceSaid : Prop := fnTwiceRow.holds Try.pinned (OpenSpec.ofChange fnTwiceSpec)

/-- ITS FALSE NEIGHBOUR: 'it returns false'. Refute it at one input. -/
def fnTwiceWrong : ChangeSpec := { name := "fnTwice", fn := fun _ => fun
  | [d1, d2, d3] => { results := [.lit (.bool false)], args := [d1, d2, d3] }
  | _ => none }
def FnTwiceWrongFalsely : Prop := fnTwiceRow.holds Try.pinned (OpenSpec.ofChange fnTwiceWrong)

/-- 'laws.FnDominates': WHATEVER THE INPUT: true; the input reads as it did. -/
def fnDominatesSpec : ChangeSpec := { name := "fnDominates", fn := fun _ => fun
  | [d1, d2, d3] => { results := [.lit (.bool true)], args := [d1, d2, d3] }
  | _ => none }
def fnDominatesRow : OpenClaim := { program := "ytmoooaaiohplhaa", sum := "f9459b4d6037f80466dee47a236c1dc0bd58f537a08d5c0116302b9dd4a54ef7", func := "loop.example/pub-dominatorsandloops/laws.FnDominates", spec := "fnDominates", recurses := true, apart := false }
def FnDominatesSaid : Prop := fnDominatesRow.holds Try.pinned (OpenSpec.ofChange fnDominatesSpec)

/-- ITS FALSE NEIGHBOUR: 'it returns false'. Refute it at one input. -/
def fnDominatesWrong : ChangeSpec := { name := "fnDominates", fn := fun _ => fun
  | [d1, d2, d3] => { results := [.lit (.bool false)], args := [d1, d2, d3] }
  | _ => none }
def FnDominatesWrongFalsely : Prop := fnDominatesRow.holds Try.pinned (OpenSpec.ofChange fnDominatesWrong)

/-- 'laws.FnDominators': WHATEVER THE INPUT: true; the input reads as it did. -/
def fnDominatorsSpec : ChangeSpec := { name := "fnDominators", fn := fun _ => fun
  | [d] => { results := [.lit (.bool true)], args := [d] }
  | _ => none }
def fnDominatorsRow : OpenClaim := { program := "ytmoooaaiohplhaa", sum := "f9459b4d6037f80466dee47a236c1dc0bd58f537a08d5c0116302b9dd4a54ef7", func := "loop.example/pub-dominatorsandloops/laws.FnDominators", spec := "fnDominators", recurses := true, apart := false }
def FnDominatorsSaid : Prop := fnDominatorsRow.holds Try.pinned (OpenSpec.ofChange fnDominatorsSpec)

/-- ITS FALSE NEIGHBOUR: 'it returns false'. Refute it at one input. -/
def fnDominatorsWrong : ChangeSpec := { name := "fnDominators", fn := fun _ => fun
  | [d] => { results := [.lit (.bool false)], args := [d] }
  | _ => none }
def FnDominatorsWrongFalsely : Prop := fnDominatorsRow.holds Try.pinned (OpenSpec.ofChange fnDominatorsWrong)

/-- 'laws.FnNames': WHATEVER THE INPUT: true; the input reads as it did. -/
def fnNamesSpec : ChangeSpec := { name := "fnNames", fn := fun _ => fun
  | [d1, d2] => { results := [.lit (.bool true)], args := [d1, d2] }
  | _ => none }
def fnNamesRow : OpenClaim := { program := "ytmoooaaiohplhaa", sum := "f9459b4d6037f80466dee47a236c1dc0bd58f537a08d5c0116302b9dd4a54ef7", func := "loop.example/pub-dominatorsandloops/laws.FnNames", spec := "fnNames", recurses := true, apart := false }
def FnNamesSaid : Prop := fnNamesRow.holds Try.pinned (OpenSpec.ofChange fnNamesSpec)

/-- ITS FALSE NEIGHBOUR: 'it returns false'. Refute it at one input. -/
def fnNamesWrong : ChangeSpec := { name := "fnNames", fn := fun _ => fun
  | [d1, d2] => { results := [.lit (.bool false)], args := [d1, d2] }
  | _ => none }
def FnNamesWrongFalsely : Prop := fnNamesRow.holds Try.pinned (OpenSpec.ofChange fnNamesWrong)

/- THE SECOND FORM. 'bulk': how many values and letters a reading holds, each counted each time it is reached (what is shared counts as often as it is met; a slice's spare places count too). A statement '..UptoSaid' is the law's where the arguments, and the package variables that the reading takes, are together of bulk at most 1048576: NARROWER than '..Said'. Prove '..Said' where nothing that the law and all that it calls make is longer than what came in: it says more and counts as full. Else prove '..UptoSaid'. A law counts once. -/
mutual
def uptoBulk {H : Type} : DataW H → Nat
  | .lit (.string bytes) => bytes.length + 1
  | .lit _ => 1
  | .nil => 1
  | .ptr d => uptoBulk d + 1
  | .slice elems spare => uptoBulkAll elems + uptoBulkAll spare + 1
  | .agg parts => uptoBulkAll parts + 1
  | .iface _ d => uptoBulk d + 1
  | .map entries => uptoBulkEntries entries + 1
  | .held _ => 1
def uptoBulkAll {H : Type} : List (DataW H) → Nat
  | [] => 0
  | d :: r => uptoBulk d + uptoBulkAll r
def uptoBulkEntries {H : Type} : List (Lit × DataW H) → Nat
  | [] => 0
  | x :: r => uptoBulkEntry x + uptoBulkEntries r
def uptoBulkEntry {H : Type} : Lit × DataW H → Nat
  | (.string bytes, d) => bytes.length + uptoBulk d + 1
  | (_, d) => uptoBulk d + 1
 end
def uptoSmall : (H : Type) → List (DataW H) → Bool := fun _ ds => decide (uptoBulkAll ds ≤ 1048576)
def OpenSpec.upto (s : _root_.Go.ChangeSpec) : _root_.Go.OpenSpec := { _root_.Go.OpenSpec.ofChange s with cond := some uptoSmall }

/-- 'laws.FnPostorder', WHERE WHAT IT READS IS OF BULK AT MOST 1048576: true; the input reads as it did. -/
def fnPostorderUptoRow : OpenClaim := { program := "ytmoooaaiohplhaa", sum := "f9459b4d6037f80466dee47a236c1dc0bd58f537a08d5c0116302b9dd4a54ef7", func := "loop.example/pub-dominatorsandloops/laws.FnPostorder", spec := "fnPostorder", apart := false, narrowed := true }
def FnPostorderUptoSaid : Prop := fnPostorderUptoRow.holds Try.pinned (OpenSpec.upto fnPostorderSpec)

/-- 'laws.FnPostorderForward', WHERE WHAT IT READS IS OF BULK AT MOST 1048576: true; the input reads as it did. -/
def fnPostorderForwardUptoRow : OpenClaim := { program := "ytmoooaaiohplhaa", sum := "f9459b4d6037f80466dee47a236c1dc0bd58f537a08d5c0116302b9dd4a54ef7", func := "loop.example/pub-dominatorsandloops/laws.FnPostorderForward", spec := "fnPostorderForward", apart := false, narrowed := true }
def FnPostorderForwardUptoSaid : Prop := fnPostorderForwardUptoRow.holds Try.pinned (OpenSpec.upto fnPostorderForwardSpec)

/-- 'laws.FnPostorderNumbers', WHERE WHAT IT READS IS OF BULK AT MOST 1048576: true; the input reads as it did. -/
def fnPostorderNumbersUptoRow : OpenClaim := { program := "ytmoooaaiohplhaa", sum := "f9459b4d6037f80466dee47a236c1dc0bd58f537a08d5c0116302b9dd4a54ef7", func := "loop.example/pub-dominatorsandloops/laws.FnPostorderNumbers", spec := "fnPostorderNumbers", apart := false, narrowed := true }
def FnPostorderNumbersUptoSaid : Prop := fnPostorderNumbersUptoRow.holds Try.pinned (OpenSpec.upto fnPostorderNumbersSpec)

/-- 'laws.FnLoops', WHERE WHAT IT READS IS OF BULK AT MOST 1048576: true; the input reads as it did. -/
def fnLoopsUptoRow : OpenClaim := { program := "ytmoooaaiohplhaa", sum := "f9459b4d6037f80466dee47a236c1dc0bd58f537a08d5c0116302b9dd4a54ef7", func := "loop.example/pub-dominatorsandloops/laws.FnLoops", spec := "fnLoops", unfollowed := true, recurses := true, apart := false, narrowed := true }
def FnLoopsUptoSaid : Prop := fnLoopsUptoRow.holds Try.pinned (OpenSpec.upto fnLoopsSpec)

/-- 'laws.FnTreeOf', WHERE WHAT IT READS IS OF BULK AT MOST 1048576: true; the input reads as it did. -/
def fnTreeOfUptoRow : OpenClaim := { program := "ytmoooaaiohplhaa", sum := "f9459b4d6037f80466dee47a236c1dc0bd58f537a08d5c0116302b9dd4a54ef7", func := "loop.example/pub-dominatorsandloops/laws.FnTreeOf", spec := "fnTreeOf", recurses := true, apart := false, narrowed := true }
def FnTreeOfUptoSaid : Prop := fnTreeOfUptoRow.holds Try.pinned (OpenSpec.upto fnTreeOfSpec)

/-- 'laws.FnDominatorsSimple', WHERE WHAT IT READS IS OF BULK AT MOST 1048576: true; the input reads as it did. -/
def fnDominatorsSimpleUptoRow : OpenClaim := { program := "ytmoooaaiohplhaa", sum := "f9459b4d6037f80466dee47a236c1dc0bd58f537a08d5c0116302b9dd4a54ef7", func := "loop.example/pub-dominatorsandloops/laws.FnDominatorsSimple", spec := "fnDominatorsSimple", apart := false, narrowed := true }
def FnDominatorsSimpleUptoSaid : Prop := fnDominatorsSimpleUptoRow.holds Try.pinned (OpenSpec.upto fnDominatorsSimpleSpec)

/-- 'laws.FnEachWay', WHERE WHAT IT READS IS OF BULK AT MOST 1048576: true; the input reads as it did. -/
def fnEachWayUptoRow : OpenClaim := { program := "ytmoooaaiohplhaa", sum := "f9459b4d6037f80466dee47a236c1dc0bd58f537a08d5c0116302b9dd4a54ef7", func := "loop.example/pub-dominatorsandloops/laws.FnEachWay", spec := "fnEachWay", apart := false, narrowed := true }
def FnEachWayUptoSaid : Prop := fnEachWayUptoRow.holds Try.pinned (OpenSpec.upto fnEachWaySpec)

/-- 'laws.FnNoLoop', WHERE WHAT IT READS IS OF BULK AT MOST 1048576: true; the input reads as it did. -/
def fnNoLoopUptoRow : OpenClaim := { program := "ytmoooaaiohplhaa", sum := "f9459b4d6037f80466dee47a236c1dc0bd58f537a08d5c0116302b9dd4a54ef7", func := "loop.example/pub-dominatorsandloops/laws.FnNoLoop", spec := "fnNoLoop", unfollowed := true, recurses := true, apart := false, narrowed := true }
def FnNoLoopUptoSaid : Prop := fnNoLoopUptoRow.holds Try.pinned (OpenSpec.upto fnNoLoopSpec)

/-- 'laws.FnTwice', WHERE WHAT IT READS IS OF BULK AT MOST 1048576: true; the input reads as it did. -/
def fnTwiceUptoRow : OpenClaim := { program := "ytmoooaaiohplhaa", sum := "f9459b4d6037f80466dee47a236c1dc0bd58f537a08d5c0116302b9dd4a54ef7", func := "loop.example/pub-dominatorsandloops/laws.FnTwice", spec := "fnTwice", apart := false, narrowed := true }
def FnTwiceUptoSaid : Prop := fnTwiceUptoRow.holds Try.pinned (OpenSpec.upto fnTwiceSpec)

/-- 'laws.FnDominates', WHERE WHAT IT READS IS OF BULK AT MOST 1048576: true; the input reads as it did. -/
def fnDominatesUptoRow : OpenClaim := { program := "ytmoooaaiohplhaa", sum := "f9459b4d6037f80466dee47a236c1dc0bd58f537a08d5c0116302b9dd4a54ef7", func := "loop.example/pub-dominatorsandloops/laws.FnDominates", spec := "fnDominates", recurses := true, apart := false, narrowed := true }
def FnDominatesUptoSaid : Prop := fnDominatesUptoRow.holds Try.pinned (OpenSpec.upto fnDominatesSpec)

/-- 'laws.FnDominators', WHERE WHAT IT READS IS OF BULK AT MOST 1048576: true; the input reads as it did. -/
def fnDominatorsUptoRow : OpenClaim := { program := "ytmoooaaiohplhaa", sum := "f9459b4d6037f80466dee47a236c1dc0bd58f537a08d5c0116302b9dd4a54ef7", func := "loop.example/pub-dominatorsandloops/laws.FnDominators", spec := "fnDominators", recurses := true, apart := false, narrowed := true }
def FnDominatorsUptoSaid : Prop := fnDominatorsUptoRow.holds Try.pinned (OpenSpec.upto fnDominatorsSpec)

/-- 'laws.FnNames', WHERE WHAT IT READS IS OF BULK AT MOST 1048576: true; the input reads as it did. -/
def fnNamesUptoRow : OpenClaim := { program := "ytmoooaaiohplhaa", sum := "f9459b4d6037f80466dee47a236c1dc0bd58f537a08d5c0116302b9dd4a54ef7", func := "loop.example/pub-dominatorsandloops/laws.FnNames", spec := "fnNames", recurses := true, apart := false, narrowed := true }
def FnNamesUptoSaid : Prop := fnNamesUptoRow.holds Try.pinned (OpenSpec.upto fnNamesSpec)

end Rows
end Go.Proofs.Ytmoooaaiohplhaa
