/-
  No cell of these rows narrows 'for every input' (looked for: loops, veiled, ifaces, maps, wideKeys, modest, calm, conditions, laid).
  DERIVED. THE GIVEN ROWS OF THIS SEAT. 12 by the template 'for every input the law returns true; each argument reads behind the call as it read before'; 0 by the template 'total and deterministic' (their statements: YtmoooaaiohplhabTotals.lean).
  GIVEN WITH THE SEED: the statements are not yours to turn. If you find one false, say at which input.
  Laid BY PROGRAM, IN A SANDBOX (cutbox-rows.mjs): the forced cells as the released guide's own fill.sh prints them over the translation 79bf24c92c1db7da… (all of the seat's roots in one cut). By AI agents, Wed Nov 11 2026. No macro, syntax, notation, axiom, sorry.
-/
import Derived.Test.YtmoooaaiohplhabChecked
import GoSem.Claim
import GoSem.ClaimJoined
import GoSem.ClaimMapViews
import Derived.JoinedTies
import Derived.KernelRfl
namespace Go.Proofs.Ytmoooaaiohplhab
/- THE CELL 'sum', in the pinned program and in every row, IS THE sha256 OF THE DUMP (.gsa) THAT YtmoooaaiohplhabProg.lean LOADS. Nothing in Lean hashes anything: it is a label: what it is worth is what the hold of that sum in a sandbox is worth. -/
noncomputable def Try.pinned : Pinned := { name := "ytmoooaaiohplhab", sum := "79bf24c92c1db7dacf7da135bdd6b7e62594a2c703facdccc9ae975480f60e16", checked := Try.checked }
namespace Rows
def none {H : Type} : Left H := { results := [], args := [] }

/-- 'laws.FnOuter': WHATEVER THE INPUT: true; the input reads as it did. -/
def fnOuterSpec : ChangeSpec := { name := "fnOuter", fn := fun _ => fun
  | [d] => { results := [.lit (.bool true)], args := [d] }
  | _ => none }
def fnOuterRow : OpenClaim := { program := "ytmoooaaiohplhab", sum := "79bf24c92c1db7dacf7da135bdd6b7e62594a2c703facdccc9ae975480f60e16", func := "loop.example/pub-dominatorsandloops/laws.FnOuter", spec := "fnOuter", unfollowed := true, recurses := true, apart := false }
def FnOuterSaid : Prop := fnOuterRow.holds Try.pinned (OpenSpec.ofChange fnOuterSpec)

/-- ITS FALSE NEIGHBOUR: 'it returns false'. Refute it at one input. -/
def fnOuterWrong : ChangeSpec := { name := "fnOuter", fn := fun _ => fun
  | [d] => { results := [.lit (.bool false)], args := [d] }
  | _ => none }
def FnOuterWrongFalsely : Prop := fnOuterRow.holds Try.pinned (OpenSpec.ofChange fnOuterWrong)

/-- 'laws.FnSplit': WHATEVER THE INPUT: true; the input reads as it did. -/
def fnSplitSpec : ChangeSpec := { name := "fnSplit", fn := fun _ => fun
  | [d1, d2, d3] => { results := [.lit (.bool true)], args := [d1, d2, d3] }
  | _ => none }
def fnSplitRow : OpenClaim := { program := "ytmoooaaiohplhab", sum := "79bf24c92c1db7dacf7da135bdd6b7e62594a2c703facdccc9ae975480f60e16", func := "loop.example/pub-dominatorsandloops/laws.FnSplit", spec := "fnSplit", recurses := true, apart := false }
def FnSplitSaid : Prop := fnSplitRow.holds Try.pinned (OpenSpec.ofChange fnSplitSpec)

/-- ITS FALSE NEIGHBOUR: 'it returns false'. Refute it at one input. -/
def fnSplitWrong : ChangeSpec := { name := "fnSplit", fn := fun _ => fun
  | [d1, d2, d3] => { results := [.lit (.bool false)], args := [d1, d2, d3] }
  | _ => none }
def FnSplitWrongFalsely : Prop := fnSplitRow.holds Try.pinned (OpenSpec.ofChange fnSplitWrong)

/-- 'laws.FnUnreached': WHATEVER THE INPUT: true; the input reads as it did. -/
def fnUnreachedSpec : ChangeSpec := { name := "fnUnreached", fn := fun _ => fun
  | [d] => { results := [.lit (.bool true)], args := [d] }
  | _ => none }
def fnUnreachedRow : OpenClaim := { program := "ytmoooaaiohplhab", sum := "79bf24c92c1db7dacf7da135bdd6b7e62594a2c703facdccc9ae975480f60e16", func := "loop.example/pub-dominatorsandloops/laws.FnUnreached", spec := "fnUnreached", recurses := true, apart := false }
def FnUnreachedSaid : Prop := fnUnreachedRow.holds Try.pinned (OpenSpec.ofChange fnUnreachedSpec)

/-- ITS FALSE NEIGHBOUR: 'it returns false'. Refute it at one input. -/
def fnUnreachedWrong : ChangeSpec := { name := "fnUnreached", fn := fun _ => fun
  | [d] => { results := [.lit (.bool false)], args := [d] }
  | _ => none }
def FnUnreachedWrongFalsely : Prop := fnUnreachedRow.holds Try.pinned (OpenSpec.ofChange fnUnreachedWrong)

/-- 'laws.FnWayBack': WHATEVER THE INPUT: true; the input reads as it did. -/
def fnWayBackSpec : ChangeSpec := { name := "fnWayBack", fn := fun _ => fun
  | [d1, d2, d3] => { results := [.lit (.bool true)], args := [d1, d2, d3] }
  | _ => none }
def fnWayBackRow : OpenClaim := { program := "ytmoooaaiohplhab", sum := "79bf24c92c1db7dacf7da135bdd6b7e62594a2c703facdccc9ae975480f60e16", func := "loop.example/pub-dominatorsandloops/laws.FnWayBack", spec := "fnWayBack", recurses := true, apart := false }
def FnWayBackSaid : Prop := fnWayBackRow.holds Try.pinned (OpenSpec.ofChange fnWayBackSpec)

/-- ITS FALSE NEIGHBOUR: 'it returns false'. Refute it at one input. -/
def fnWayBackWrong : ChangeSpec := { name := "fnWayBack", fn := fun _ => fun
  | [d1, d2, d3] => { results := [.lit (.bool false)], args := [d1, d2, d3] }
  | _ => none }
def FnWayBackWrongFalsely : Prop := fnWayBackRow.holds Try.pinned (OpenSpec.ofChange fnWayBackWrong)

/-- 'laws.FnAncestor': WHATEVER THE INPUT: true; the input reads as it did. -/
def fnAncestorSpec : ChangeSpec := { name := "fnAncestor", fn := fun _ => fun
  | [d1, d2, d3] => { results := [.lit (.bool true)], args := [d1, d2, d3] }
  | _ => none }
def fnAncestorRow : OpenClaim := { program := "ytmoooaaiohplhab", sum := "79bf24c92c1db7dacf7da135bdd6b7e62594a2c703facdccc9ae975480f60e16", func := "loop.example/pub-dominatorsandloops/laws.FnAncestor", spec := "fnAncestor", recurses := true, apart := false }
def FnAncestorSaid : Prop := fnAncestorRow.holds Try.pinned (OpenSpec.ofChange fnAncestorSpec)

/-- ITS FALSE NEIGHBOUR: 'it returns false'. Refute it at one input. -/
def fnAncestorWrong : ChangeSpec := { name := "fnAncestor", fn := fun _ => fun
  | [d1, d2, d3] => { results := [.lit (.bool false)], args := [d1, d2, d3] }
  | _ => none }
def FnAncestorWrongFalsely : Prop := fnAncestorRow.holds Try.pinned (OpenSpec.ofChange fnAncestorWrong)

/-- 'laws.FnAncestorEq': WHATEVER THE INPUT: true; the input reads as it did. -/
def fnAncestorEqSpec : ChangeSpec := { name := "fnAncestorEq", fn := fun _ => fun
  | [d1, d2, d3] => { results := [.lit (.bool true)], args := [d1, d2, d3] }
  | _ => none }
def fnAncestorEqRow : OpenClaim := { program := "ytmoooaaiohplhab", sum := "79bf24c92c1db7dacf7da135bdd6b7e62594a2c703facdccc9ae975480f60e16", func := "loop.example/pub-dominatorsandloops/laws.FnAncestorEq", spec := "fnAncestorEq", recurses := true, apart := false }
def FnAncestorEqSaid : Prop := fnAncestorEqRow.holds Try.pinned (OpenSpec.ofChange fnAncestorEqSpec)

/-- ITS FALSE NEIGHBOUR: 'it returns false'. Refute it at one input. -/
def fnAncestorEqWrong : ChangeSpec := { name := "fnAncestorEq", fn := fun _ => fun
  | [d1, d2, d3] => { results := [.lit (.bool false)], args := [d1, d2, d3] }
  | _ => none }
def FnAncestorEqWrongFalsely : Prop := fnAncestorEqRow.holds Try.pinned (OpenSpec.ofChange fnAncestorEqWrong)

/-- 'laws.FnAncestors': WHATEVER THE INPUT: true; the input reads as it did. -/
def fnAncestorsSpec : ChangeSpec := { name := "fnAncestors", fn := fun _ => fun
  | [d1, d2, d3, d4] => { results := [.lit (.bool true)], args := [d1, d2, d3, d4] }
  | _ => none }
def fnAncestorsRow : OpenClaim := { program := "ytmoooaaiohplhab", sum := "79bf24c92c1db7dacf7da135bdd6b7e62594a2c703facdccc9ae975480f60e16", func := "loop.example/pub-dominatorsandloops/laws.FnAncestors", spec := "fnAncestors", recurses := true, apart := false }
def FnAncestorsSaid : Prop := fnAncestorsRow.holds Try.pinned (OpenSpec.ofChange fnAncestorsSpec)

/-- ITS FALSE NEIGHBOUR: 'it returns false'. Refute it at one input. -/
def fnAncestorsWrong : ChangeSpec := { name := "fnAncestors", fn := fun _ => fun
  | [d1, d2, d3, d4] => { results := [.lit (.bool false)], args := [d1, d2, d3, d4] }
  | _ => none }
def FnAncestorsWrongFalsely : Prop := fnAncestorsRow.holds Try.pinned (OpenSpec.ofChange fnAncestorsWrong)

/-- 'laws.FnTree': WHATEVER THE INPUT: true; the input reads as it did. -/
def fnTreeSpec : ChangeSpec := { name := "fnTree", fn := fun _ => fun
  | [d] => { results := [.lit (.bool true)], args := [d] }
  | _ => none }
def fnTreeRow : OpenClaim := { program := "ytmoooaaiohplhab", sum := "79bf24c92c1db7dacf7da135bdd6b7e62594a2c703facdccc9ae975480f60e16", func := "loop.example/pub-dominatorsandloops/laws.FnTree", spec := "fnTree", recurses := true, apart := false }
def FnTreeSaid : Prop := fnTreeRow.holds Try.pinned (OpenSpec.ofChange fnTreeSpec)

/-- ITS FALSE NEIGHBOUR: 'it returns false'. Refute it at one input. -/
def fnTreeWrong : ChangeSpec := { name := "fnTree", fn := fun _ => fun
  | [d] => { results := [.lit (.bool false)], args := [d] }
  | _ => none }
def FnTreeWrongFalsely : Prop := fnTreeRow.holds Try.pinned (OpenSpec.ofChange fnTreeWrong)

/-- 'laws.FnTreeNumbers': WHATEVER THE INPUT: true; the input reads as it did. -/
def fnTreeNumbersSpec : ChangeSpec := { name := "fnTreeNumbers", fn := fun _ => fun
  | [d1, d2, d3] => { results := [.lit (.bool true)], args := [d1, d2, d3] }
  | _ => none }
def fnTreeNumbersRow : OpenClaim := { program := "ytmoooaaiohplhab", sum := "79bf24c92c1db7dacf7da135bdd6b7e62594a2c703facdccc9ae975480f60e16", func := "loop.example/pub-dominatorsandloops/laws.FnTreeNumbers", spec := "fnTreeNumbers", recurses := true, apart := false }
def FnTreeNumbersSaid : Prop := fnTreeNumbersRow.holds Try.pinned (OpenSpec.ofChange fnTreeNumbersSpec)

/-- ITS FALSE NEIGHBOUR: 'it returns false'. Refute it at one input. -/
def fnTreeNumbersWrong : ChangeSpec := { name := "fnTreeNumbers", fn := fun _ => fun
  | [d1, d2, d3] => { results := [.lit (.bool false)], args := [d1, d2, d3] }
  | _ => none }
def FnTreeNumbersWrongFalsely : Prop := fnTreeNumbersRow.holds Try.pinned (OpenSpec.ofChange fnTreeNumbersWrong)

/-- 'laws.FnTreeSiblings': WHATEVER THE INPUT: true; the input reads as it did. -/
def fnTreeSiblingsSpec : ChangeSpec := { name := "fnTreeSiblings", fn := fun _ => fun
  | [d1, d2] => { results := [.lit (.bool true)], args := [d1, d2] }
  | _ => none }
def fnTreeSiblingsRow : OpenClaim := { program := "ytmoooaaiohplhab", sum := "79bf24c92c1db7dacf7da135bdd6b7e62594a2c703facdccc9ae975480f60e16", func := "loop.example/pub-dominatorsandloops/laws.FnTreeSiblings", spec := "fnTreeSiblings", recurses := true, apart := false }
def FnTreeSiblingsSaid : Prop := fnTreeSiblingsRow.holds Try.pinned (OpenSpec.ofChange fnTreeSiblingsSpec)

/-- ITS FALSE NEIGHBOUR: 'it returns false'. Refute it at one input. -/
def fnTreeSiblingsWrong : ChangeSpec := { name := "fnTreeSiblings", fn := fun _ => fun
  | [d1, d2] => { results := [.lit (.bool false)], args := [d1, d2] }
  | _ => none }
def FnTreeSiblingsWrongFalsely : Prop := fnTreeSiblingsRow.holds Try.pinned (OpenSpec.ofChange fnTreeSiblingsWrong)

/-- 'laws.FnDomOrder': WHATEVER THE INPUT: true; the input reads as it did. -/
def fnDomOrderSpec : ChangeSpec := { name := "fnDomOrder", fn := fun _ => fun
  | [d1, d2, d3] => { results := [.lit (.bool true)], args := [d1, d2, d3] }
  | _ => none }
def fnDomOrderRow : OpenClaim := { program := "ytmoooaaiohplhab", sum := "79bf24c92c1db7dacf7da135bdd6b7e62594a2c703facdccc9ae975480f60e16", func := "loop.example/pub-dominatorsandloops/laws.FnDomOrder", spec := "fnDomOrder", recurses := true, apart := false }
def FnDomOrderSaid : Prop := fnDomOrderRow.holds Try.pinned (OpenSpec.ofChange fnDomOrderSpec)

/-- ITS FALSE NEIGHBOUR: 'it returns false'. Refute it at one input. -/
def fnDomOrderWrong : ChangeSpec := { name := "fnDomOrder", fn := fun _ => fun
  | [d1, d2, d3] => { results := [.lit (.bool false)], args := [d1, d2, d3] }
  | _ => none }
def FnDomOrderWrongFalsely : Prop := fnDomOrderRow.holds Try.pinned (OpenSpec.ofChange fnDomOrderWrong)

/-- 'laws.FnDomOrderLeaves': WHATEVER THE INPUT: true; the input reads as it did. -/
def fnDomOrderLeavesSpec : ChangeSpec := { name := "fnDomOrderLeaves", fn := fun _ => fun
  | [d1, d2, d3, d4] => { results := [.lit (.bool true)], args := [d1, d2, d3, d4] }
  | _ => none }
def fnDomOrderLeavesRow : OpenClaim := { program := "ytmoooaaiohplhab", sum := "79bf24c92c1db7dacf7da135bdd6b7e62594a2c703facdccc9ae975480f60e16", func := "loop.example/pub-dominatorsandloops/laws.FnDomOrderLeaves", spec := "fnDomOrderLeaves", recurses := true, apart := false }
def FnDomOrderLeavesSaid : Prop := fnDomOrderLeavesRow.holds Try.pinned (OpenSpec.ofChange fnDomOrderLeavesSpec)

/-- ITS FALSE NEIGHBOUR: 'it returns false'. Refute it at one input. -/
def fnDomOrderLeavesWrong : ChangeSpec := { name := "fnDomOrderLeaves", fn := fun _ => fun
  | [d1, d2, d3, d4] => { results := [.lit (.bool false)], args := [d1, d2, d3, d4] }
  | _ => none }
def FnDomOrderLeavesWrongFalsely : Prop := fnDomOrderLeavesRow.holds Try.pinned (OpenSpec.ofChange fnDomOrderLeavesWrong)

/- THE SECOND FORM. 'bulk': how many values and letters a reading holds, each counted each time it is reached (what is shared counts as often as it is met; a slice's spare places count too). A statement '..UptoSaid' is the law's where the arguments, and the package variables that the reading takes, are together of bulk at most 1048576: NARROWER than '..Said'. Prove '..Said' where nothing that the law and all that it calls make is longer than what came in: it says more and counts as full. Else prove '..UptoSaid'. A law counts once. -/
mutual
def uptoBulk {H : Type} : DataW H → Nat
  | .lit (.string bytes) => bytes.length + 1
  | .lit _ => 1
  | .nil => 1
  | .ptr d => uptoBulk d + 1
  | .slice elems spare => uptoBulkAll elems + uptoBulkAll spare + 1
  | .agg parts => uptoBulkAll parts + 1
  | .iface _ d => uptoBulk d + 1
  | .map entries => uptoBulkEntries entries + 1
  | .held _ => 1
def uptoBulkAll {H : Type} : List (DataW H) → Nat
  | [] => 0
  | d :: r => uptoBulk d + uptoBulkAll r
def uptoBulkEntries {H : Type} : List (Lit × DataW H) → Nat
  | [] => 0
  | x :: r => uptoBulkEntry x + uptoBulkEntries r
def uptoBulkEntry {H : Type} : Lit × DataW H → Nat
  | (.string bytes, d) => bytes.length + uptoBulk d + 1
  | (_, d) => uptoBulk d + 1
 end
def uptoSmall : (H : Type) → List (DataW H) → Bool := fun _ ds => decide (uptoBulkAll ds ≤ 1048576)
def OpenSpec.upto (s : _root_.Go.ChangeSpec) : _root_.Go.OpenSpec := { _root_.Go.OpenSpec.ofChange s with cond := some uptoSmall }

/-- 'laws.FnOuter', WHERE WHAT IT READS IS OF BULK AT MOST 1048576: true; the input reads as it did. -/
def fnOuterUptoRow : OpenClaim := { program := "ytmoooaaiohplhab", sum := "79bf24c92c1db7dacf7da135bdd6b7e62594a2c703facdccc9ae975480f60e16", func := "loop.example/pub-dominatorsandloops/laws.FnOuter", spec := "fnOuter", unfollowed := true, recurses := true, apart := false, narrowed := true }
def FnOuterUptoSaid : Prop := fnOuterUptoRow.holds Try.pinned (OpenSpec.upto fnOuterSpec)

/-- 'laws.FnSplit', WHERE WHAT IT READS IS OF BULK AT MOST 1048576: true; the input reads as it did. -/
def fnSplitUptoRow : OpenClaim := { program := "ytmoooaaiohplhab", sum := "79bf24c92c1db7dacf7da135bdd6b7e62594a2c703facdccc9ae975480f60e16", func := "loop.example/pub-dominatorsandloops/laws.FnSplit", spec := "fnSplit", recurses := true, apart := false, narrowed := true }
def FnSplitUptoSaid : Prop := fnSplitUptoRow.holds Try.pinned (OpenSpec.upto fnSplitSpec)

/-- 'laws.FnUnreached', WHERE WHAT IT READS IS OF BULK AT MOST 1048576: true; the input reads as it did. -/
def fnUnreachedUptoRow : OpenClaim := { program := "ytmoooaaiohplhab", sum := "79bf24c92c1db7dacf7da135bdd6b7e62594a2c703facdccc9ae975480f60e16", func := "loop.example/pub-dominatorsandloops/laws.FnUnreached", spec := "fnUnreached", recurses := true, apart := false, narrowed := true }
def FnUnreachedUptoSaid : Prop := fnUnreachedUptoRow.holds Try.pinned (OpenSpec.upto fnUnreachedSpec)

/-- 'laws.FnWayBack', WHERE WHAT IT READS IS OF BULK AT MOST 1048576: true; the input reads as it did. -/
def fnWayBackUptoRow : OpenClaim := { program := "ytmoooaaiohplhab", sum := "79bf24c92c1db7dacf7da135bdd6b7e62594a2c703facdccc9ae975480f60e16", func := "loop.example/pub-dominatorsandloops/laws.FnWayBack", spec := "fnWayBack", recurses := true, apart := false, narrowed := true }
def FnWayBackUptoSaid : Prop := fnWayBackUptoRow.holds Try.pinned (OpenSpec.upto fnWayBackSpec)

/-- 'laws.FnAncestor', WHERE WHAT IT READS IS OF BULK AT MOST 1048576: true; the input reads as it did. -/
def fnAncestorUptoRow : OpenClaim := { program := "ytmoooaaiohplhab", sum := "79bf24c92c1db7dacf7da135bdd6b7e62594a2c703facdccc9ae975480f60e16", func := "loop.example/pub-dominatorsandloops/laws.FnAncestor", spec := "fnAncestor", recurses := true, apart := false, narrowed := true }
def FnAncestorUptoSaid : Prop := fnAncestorUptoRow.holds Try.pinned (OpenSpec.upto fnAncestorSpec)

/-- 'laws.FnAncestorEq', WHERE WHAT IT READS IS OF BULK AT MOST 1048576: true; the input reads as it did. -/
def fnAncestorEqUptoRow : OpenClaim := { program := "ytmoooaaiohplhab", sum := "79bf24c92c1db7dacf7da135bdd6b7e62594a2c703facdccc9ae975480f60e16", func := "loop.example/pub-dominatorsandloops/laws.FnAncestorEq", spec := "fnAncestorEq", recurses := true, apart := false, narrowed := true }
def FnAncestorEqUptoSaid : Prop := fnAncestorEqUptoRow.holds Try.pinned (OpenSpec.upto fnAncestorEqSpec)

/-- 'laws.FnAncestors', WHERE WHAT IT READS IS OF BULK AT MOST 1048576: true; the input reads as it did. -/
def fnAncestorsUptoRow : OpenClaim := { program := "ytmoooaaiohplhab", sum := "79bf24c92c1db7dacf7da135bdd6b7e62594a2c703facdccc9ae975480f60e16", func := "loop.example/pub-dominatorsandloops/laws.FnAncestors", spec := "fnAncestors", recurses := true, apart := false, narrowed := true }
def FnAncestorsUptoSaid : Prop := fnAncestorsUptoRow.holds Try.pinned (OpenSpec.upto fnAncestorsSpec)

/-- 'laws.FnTree', WHERE WHAT IT READS IS OF BULK AT MOST 1048576: true; the input reads as it did. -/
def fnTreeUptoRow : OpenClaim := { program := "ytmoooaaiohplhab", sum := "79bf24c92c1db7dacf7da135bdd6b7e62594a2c703facdccc9ae975480f60e16", func := "loop.example/pub-dominatorsandloops/laws.FnTree", spec := "fnTree", recurses := true, apart := false, narrowed := true }
def FnTreeUptoSaid : Prop := fnTreeUptoRow.holds Try.pinned (OpenSpec.upto fnTreeSpec)

/-- 'laws.FnTreeNumbers', WHERE WHAT IT READS IS OF BULK AT MOST 1048576: true; the input reads as it did. -/
def fnTreeNumbersUptoRow : OpenClaim := { program := "ytmoooaaiohplhab", sum := "79bf24c92c1db7dacf7da135bdd6b7e62594a2c703facdccc9ae975480f60e16", func := "loop.example/pub-dominatorsandloops/laws.FnTreeNumbers", spec := "fnTreeNumbers", recurses := true, apart := false, narrowed := true }
def FnTreeNumbersUptoSaid : Prop := fnTreeNumbersUptoRow.holds Try.pinned (OpenSpec.upto fnTreeNumbersSpec)

/-- 'laws.FnTreeSiblings', WHERE WHAT IT READS IS OF BULK AT MOST 1048576: true; the input reads as it did. -/
def fnTreeSiblingsUptoRow : OpenClaim := { program := "ytmoooaaiohplhab", sum := "79bf24c92c1db7dacf7da135bdd6b7e62594a2c703facdccc9ae975480f60e16", func := "loop.example/pub-dominatorsandloops/laws.FnTreeSiblings", spec := "fnTreeSiblings", recurses := true, apart := false, narrowed := true }
def FnTreeSiblingsUptoSaid : Prop := fnTreeSiblingsUptoRow.holds Try.pinned (OpenSpec.upto fnTreeSiblingsSpec)

/-- 'laws.FnDomOrder', WHERE WHAT IT READS IS OF BULK AT MOST 1048576: true; the input reads as it did. -/
def fnDomOrderUptoRow : OpenClaim := { program := "ytmoooaaiohplhab", sum := "79bf24c92c1db7dacf7da135bdd6b7e62594a2c703facdccc9ae975480f60e16", func := "loop.example/pub-dominatorsandloops/laws.FnDomOrder", spec := "fnDomOrder", recurses := true, apart := false, narrowed := true }
def FnDomOrderUptoSaid : Prop := fnDomOrderUptoRow.holds Try.pinned (OpenSpec.upto fnDomOrderSpec)

/-- 'laws.FnDomOrderLeaves', WHERE WHAT IT READS IS OF BULK AT MOST 1048576: true; the input reads as it did. -/
def fnDomOrderLeavesUptoRow : OpenClaim := { program := "ytmoooaaiohplhab", sum := "79bf24c92c1db7dacf7da135bdd6b7e62594a2c703facdccc9ae975480f60e16", func := "loop.example/pub-dominatorsandloops/laws.FnDomOrderLeaves", spec := "fnDomOrderLeaves", recurses := true, apart := false, narrowed := true }
def FnDomOrderLeavesUptoSaid : Prop := fnDomOrderLeavesUptoRow.holds Try.pinned (OpenSpec.upto fnDomOrderLeavesSpec)

end Rows
end Go.Proofs.Ytmoooaaiohplhab
