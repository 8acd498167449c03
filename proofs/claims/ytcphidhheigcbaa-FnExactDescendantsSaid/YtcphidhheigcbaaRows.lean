/-
  No cell of these rows narrows 'for every input' (looked for: loops, veiled, ifaces, maps, wideKeys, modest, calm, conditions, laid).
  DERIVED. THE GIVEN ROWS OF THIS SEAT. 10 by the template 'for every input the law returns true; each argument reads behind the call as it read before'; 0 by the template 'total and deterministic' (their statements: YtcphidhheigcbaaTotals.lean).
  GIVEN WITH THE SEED: the statements are not yours to turn. If you find one false, say at which input.
  Laid BY PROGRAM, IN A SANDBOX (cutbox-rows.mjs): the forced cells as the released guide's own fill.sh prints them over the translation 079ad721afc2c93f… (all of the seat's roots in one cut). By AI agents, Wed Nov 11 2026. No macro, syntax, notation, axiom, sorry.
-/
import Derived.Test.YtcphidhheigcbaaChecked
import GoSem.Claim
import GoSem.ClaimJoined
import GoSem.ClaimMapViews
import Derived.JoinedTies
import Derived.KernelRfl
namespace Go.Proofs.Ytcphidhheigcbaa
/- THE CELL 'sum', in the pinned program and in every row, IS THE sha256 OF THE DUMP (.gsa) THAT YtcphidhheigcbaaProg.lean LOADS. Nothing in Lean hashes anything: it is a label: what it is worth is what the hold of that sum in a sandbox is worth. -/
noncomputable def Try.pinned : Pinned := { name := "ytcphidhheigcbaa", sum := "079ad721afc2c93f91d922e892ac7ed27950bf0834c3e699c746bbec978d78ed", checked := Try.checked }
namespace Rows
def none {H : Type} : Left H := { results := [], args := [] }

/-- 'laws.FnExactValid': WHATEVER THE INPUT: true; the input reads as it did. -/
def fnExactValidSpec : ChangeSpec := { name := "fnExactValid", fn := fun _ => fun
  | [d1, d2, d3] => { results := [.lit (.bool true)], args := [d1, d2, d3] }
  | _ => none }
def fnExactValidRow : OpenClaim := { program := "ytcphidhheigcbaa", sum := "079ad721afc2c93f91d922e892ac7ed27950bf0834c3e699c746bbec978d78ed", func := "loop.example/pub-quadtiles/laws.FnExactValid", spec := "fnExactValid", plainKeys := false, apart := false }
def FnExactValidSaid : Prop := fnExactValidRow.holds Try.pinned (OpenSpec.ofChange fnExactValidSpec)

/-- ITS FALSE NEIGHBOUR: 'it returns false'. Refute it at one input. -/
def fnExactValidWrong : ChangeSpec := { name := "fnExactValid", fn := fun _ => fun
  | [d1, d2, d3] => { results := [.lit (.bool false)], args := [d1, d2, d3] }
  | _ => none }
def FnExactValidWrongFalsely : Prop := fnExactValidRow.holds Try.pinned (OpenSpec.ofChange fnExactValidWrong)

/-- 'laws.FnExactKey': WHATEVER THE INPUT: true; the input reads as it did. -/
def fnExactKeySpec : ChangeSpec := { name := "fnExactKey", fn := fun _ => fun
  | [d1, d2, d3] => { results := [.lit (.bool true)], args := [d1, d2, d3] }
  | _ => none }
def fnExactKeyRow : OpenClaim := { program := "ytcphidhheigcbaa", sum := "079ad721afc2c93f91d922e892ac7ed27950bf0834c3e699c746bbec978d78ed", func := "loop.example/pub-quadtiles/laws.FnExactKey", spec := "fnExactKey", plainKeys := false, apart := false }
def FnExactKeySaid : Prop := fnExactKeyRow.holds Try.pinned (OpenSpec.ofChange fnExactKeySpec)

/-- ITS FALSE NEIGHBOUR: 'it returns false'. Refute it at one input. -/
def fnExactKeyWrong : ChangeSpec := { name := "fnExactKey", fn := fun _ => fun
  | [d1, d2, d3] => { results := [.lit (.bool false)], args := [d1, d2, d3] }
  | _ => none }
def FnExactKeyWrongFalsely : Prop := fnExactKeyRow.holds Try.pinned (OpenSpec.ofChange fnExactKeyWrong)

/-- 'laws.FnExactParent': WHATEVER THE INPUT: true; the input reads as it did. -/
def fnExactParentSpec : ChangeSpec := { name := "fnExactParent", fn := fun _ => fun
  | [d1, d2, d3] => { results := [.lit (.bool true)], args := [d1, d2, d3] }
  | _ => none }
def fnExactParentRow : OpenClaim := { program := "ytcphidhheigcbaa", sum := "079ad721afc2c93f91d922e892ac7ed27950bf0834c3e699c746bbec978d78ed", func := "loop.example/pub-quadtiles/laws.FnExactParent", spec := "fnExactParent", plainKeys := false, apart := false }
def FnExactParentSaid : Prop := fnExactParentRow.holds Try.pinned (OpenSpec.ofChange fnExactParentSpec)

/-- ITS FALSE NEIGHBOUR: 'it returns false'. Refute it at one input. -/
def fnExactParentWrong : ChangeSpec := { name := "fnExactParent", fn := fun _ => fun
  | [d1, d2, d3] => { results := [.lit (.bool false)], args := [d1, d2, d3] }
  | _ => none }
def FnExactParentWrongFalsely : Prop := fnExactParentRow.holds Try.pinned (OpenSpec.ofChange fnExactParentWrong)

/-- 'laws.FnExactChildren': WHATEVER THE INPUT: true; the input reads as it did. -/
def fnExactChildrenSpec : ChangeSpec := { name := "fnExactChildren", fn := fun _ => fun
  | [d1, d2, d3] => { results := [.lit (.bool true)], args := [d1, d2, d3] }
  | _ => none }
def fnExactChildrenRow : OpenClaim := { program := "ytcphidhheigcbaa", sum := "079ad721afc2c93f91d922e892ac7ed27950bf0834c3e699c746bbec978d78ed", func := "loop.example/pub-quadtiles/laws.FnExactChildren", spec := "fnExactChildren", plainKeys := false, apart := false }
def FnExactChildrenSaid : Prop := fnExactChildrenRow.holds Try.pinned (OpenSpec.ofChange fnExactChildrenSpec)

/-- ITS FALSE NEIGHBOUR: 'it returns false'. Refute it at one input. -/
def fnExactChildrenWrong : ChangeSpec := { name := "fnExactChildren", fn := fun _ => fun
  | [d1, d2, d3] => { results := [.lit (.bool false)], args := [d1, d2, d3] }
  | _ => none }
def FnExactChildrenWrongFalsely : Prop := fnExactChildrenRow.holds Try.pinned (OpenSpec.ofChange fnExactChildrenWrong)

/-- 'laws.FnExactContains': WHATEVER THE INPUT: true; the input reads as it did. -/
def fnExactContainsSpec : ChangeSpec := { name := "fnExactContains", fn := fun _ => fun
  | [d1, d2, d3, d4, d5, d6, d7] => { results := [.lit (.bool true)], args := [d1, d2, d3, d4, d5, d6, d7] }
  | _ => none }
def fnExactContainsRow : OpenClaim := { program := "ytcphidhheigcbaa", sum := "079ad721afc2c93f91d922e892ac7ed27950bf0834c3e699c746bbec978d78ed", func := "loop.example/pub-quadtiles/laws.FnExactContains", spec := "fnExactContains", plainKeys := false, apart := false }
def FnExactContainsSaid : Prop := fnExactContainsRow.holds Try.pinned (OpenSpec.ofChange fnExactContainsSpec)

/-- ITS FALSE NEIGHBOUR: 'it returns false'. Refute it at one input. -/
def fnExactContainsWrong : ChangeSpec := { name := "fnExactContains", fn := fun _ => fun
  | [d1, d2, d3, d4, d5, d6, d7] => { results := [.lit (.bool false)], args := [d1, d2, d3, d4, d5, d6, d7] }
  | _ => none }
def FnExactContainsWrongFalsely : Prop := fnExactContainsRow.holds Try.pinned (OpenSpec.ofChange fnExactContainsWrong)

/-- 'laws.FnKeyBack': WHATEVER THE INPUT: true; the input reads as it did. -/
def fnKeyBackSpec : ChangeSpec := { name := "fnKeyBack", fn := fun _ => fun
  | [d1, d2, d3] => { results := [.lit (.bool true)], args := [d1, d2, d3] }
  | _ => none }
def fnKeyBackRow : OpenClaim := { program := "ytcphidhheigcbaa", sum := "079ad721afc2c93f91d922e892ac7ed27950bf0834c3e699c746bbec978d78ed", func := "loop.example/pub-quadtiles/laws.FnKeyBack", spec := "fnKeyBack", plainKeys := false, apart := false }
def FnKeyBackSaid : Prop := fnKeyBackRow.holds Try.pinned (OpenSpec.ofChange fnKeyBackSpec)

/-- ITS FALSE NEIGHBOUR: 'it returns false'. Refute it at one input. -/
def fnKeyBackWrong : ChangeSpec := { name := "fnKeyBack", fn := fun _ => fun
  | [d1, d2, d3] => { results := [.lit (.bool false)], args := [d1, d2, d3] }
  | _ => none }
def FnKeyBackWrongFalsely : Prop := fnKeyBackRow.holds Try.pinned (OpenSpec.ofChange fnKeyBackWrong)

/-- 'laws.FnExactSiblings': WHATEVER THE INPUT: true; the input reads as it did. -/
def fnExactSiblingsSpec : ChangeSpec := { name := "fnExactSiblings", fn := fun _ => fun
  | [d1, d2, d3] => { results := [.lit (.bool true)], args := [d1, d2, d3] }
  | _ => none }
def fnExactSiblingsRow : OpenClaim := { program := "ytcphidhheigcbaa", sum := "079ad721afc2c93f91d922e892ac7ed27950bf0834c3e699c746bbec978d78ed", func := "loop.example/pub-quadtiles/laws.FnExactSiblings", spec := "fnExactSiblings", plainKeys := false, apart := false }
def FnExactSiblingsSaid : Prop := fnExactSiblingsRow.holds Try.pinned (OpenSpec.ofChange fnExactSiblingsSpec)

/-- ITS FALSE NEIGHBOUR: 'it returns false'. Refute it at one input. -/
def fnExactSiblingsWrong : ChangeSpec := { name := "fnExactSiblings", fn := fun _ => fun
  | [d1, d2, d3] => { results := [.lit (.bool false)], args := [d1, d2, d3] }
  | _ => none }
def FnExactSiblingsWrongFalsely : Prop := fnExactSiblingsRow.holds Try.pinned (OpenSpec.ofChange fnExactSiblingsWrong)

/-- 'laws.FnExactRange': WHATEVER THE INPUT: true; the input reads as it did. -/
def fnExactRangeSpec : ChangeSpec := { name := "fnExactRange", fn := fun _ => fun
  | [d1, d2, d3, d4] => { results := [.lit (.bool true)], args := [d1, d2, d3, d4] }
  | _ => none }
def fnExactRangeRow : OpenClaim := { program := "ytcphidhheigcbaa", sum := "079ad721afc2c93f91d922e892ac7ed27950bf0834c3e699c746bbec978d78ed", func := "loop.example/pub-quadtiles/laws.FnExactRange", spec := "fnExactRange", plainKeys := false, apart := false }
def FnExactRangeSaid : Prop := fnExactRangeRow.holds Try.pinned (OpenSpec.ofChange fnExactRangeSpec)

/-- ITS FALSE NEIGHBOUR: 'it returns false'. Refute it at one input. -/
def fnExactRangeWrong : ChangeSpec := { name := "fnExactRange", fn := fun _ => fun
  | [d1, d2, d3, d4] => { results := [.lit (.bool false)], args := [d1, d2, d3, d4] }
  | _ => none }
def FnExactRangeWrongFalsely : Prop := fnExactRangeRow.holds Try.pinned (OpenSpec.ofChange fnExactRangeWrong)

/-- 'laws.FnExactDescendants': WHATEVER THE INPUT: true; the input reads as it did. -/
def fnExactDescendantsSpec : ChangeSpec := { name := "fnExactDescendants", fn := fun _ => fun
  | [d1, d2, d3, d4, d5] => { results := [.lit (.bool true)], args := [d1, d2, d3, d4, d5] }
  | _ => none }
def fnExactDescendantsRow : OpenClaim := { program := "ytcphidhheigcbaa", sum := "079ad721afc2c93f91d922e892ac7ed27950bf0834c3e699c746bbec978d78ed", func := "loop.example/pub-quadtiles/laws.FnExactDescendants", spec := "fnExactDescendants", plainKeys := false, apart := false }
def FnExactDescendantsSaid : Prop := fnExactDescendantsRow.holds Try.pinned (OpenSpec.ofChange fnExactDescendantsSpec)

/-- ITS FALSE NEIGHBOUR: 'it returns false'. Refute it at one input. -/
def fnExactDescendantsWrong : ChangeSpec := { name := "fnExactDescendants", fn := fun _ => fun
  | [d1, d2, d3, d4, d5] => { results := [.lit (.bool false)], args := [d1, d2, d3, d4, d5] }
  | _ => none }
def FnExactDescendantsWrongFalsely : Prop := fnExactDescendantsRow.holds Try.pinned (OpenSpec.ofChange fnExactDescendantsWrong)

/-- 'laws.FnExactShared': WHATEVER THE INPUT: true; the input reads as it did. -/
def fnExactSharedSpec : ChangeSpec := { name := "fnExactShared", fn := fun _ => fun
  | [d1, d2, d3, d4, d5, d6] => { results := [.lit (.bool true)], args := [d1, d2, d3, d4, d5, d6] }
  | _ => none }
def fnExactSharedRow : OpenClaim := { program := "ytcphidhheigcbaa", sum := "079ad721afc2c93f91d922e892ac7ed27950bf0834c3e699c746bbec978d78ed", func := "loop.example/pub-quadtiles/laws.FnExactShared", spec := "fnExactShared", plainKeys := false, apart := false }
def FnExactSharedSaid : Prop := fnExactSharedRow.holds Try.pinned (OpenSpec.ofChange fnExactSharedSpec)

/-- ITS FALSE NEIGHBOUR: 'it returns false'. Refute it at one input. -/
def fnExactSharedWrong : ChangeSpec := { name := "fnExactShared", fn := fun _ => fun
  | [d1, d2, d3, d4, d5, d6] => { results := [.lit (.bool false)], args := [d1, d2, d3, d4, d5, d6] }
  | _ => none }
def FnExactSharedWrongFalsely : Prop := fnExactSharedRow.holds Try.pinned (OpenSpec.ofChange fnExactSharedWrong)

/- THE SECOND FORM. 'bulk': how many values and letters a reading holds, each counted each time it is reached (what is shared counts as often as it is met; a slice's spare places count too). A statement '..UptoSaid' is the law's where the arguments, and the package variables that the reading takes, are together of bulk at most 1048576: NARROWER than '..Said'. Prove '..Said' where nothing that the law and all that it calls make is longer than what came in: it says more and counts as full. Else prove '..UptoSaid'. A law counts once. -/
mutual
def uptoBulk {H : Type} : DataW H → Nat
  | .lit (.string bytes) => bytes.length + 1
  | .lit _ => 1
  | .nil => 1
  | .ptr d => uptoBulk d + 1
  | .slice elems spare => uptoBulkAll elems + uptoBulkAll spare + 1
  | .agg parts => uptoBulkAll parts + 1
  | .iface _ d => uptoBulk d + 1
  | .map entries => uptoBulkEntries entries + 1
  | .held _ => 1
def uptoBulkAll {H : Type} : List (DataW H) → Nat
  | [] => 0
  | d :: r => uptoBulk d + uptoBulkAll r
def uptoBulkEntries {H : Type} : List (Lit × DataW H) → Nat
  | [] => 0
  | x :: r => uptoBulkEntry x + uptoBulkEntries r
def uptoBulkEntry {H : Type} : Lit × DataW H → Nat
  | (.string bytes, d) => bytes.length + uptoBulk d + 1
  | (_, d) => uptoBulk d + 1
 end
def uptoSmall : (H : Type) → List (DataW H) → Bool := fun _ ds => decide (uptoBulkAll ds ≤ 1048576)
def OpenSpec.upto (s : _root_.Go.ChangeSpec) : _root_.Go.OpenSpec := { _root_.Go.OpenSpec.ofChange s with cond := some uptoSmall }

/-- 'laws.FnExactValid', WHERE WHAT IT READS IS OF BULK AT MOST 1048576: true; the input reads as it did. -/
def fnExactValidUptoRow : OpenClaim := { program := "ytcphidhheigcbaa", sum := "079ad721afc2c93f91d922e892ac7ed27950bf0834c3e699c746bbec978d78ed", func := "loop.example/pub-quadtiles/laws.FnExactValid", spec := "fnExactValid", plainKeys := false, apart := false, narrowed := true }
def FnExactValidUptoSaid : Prop := fnExactValidUptoRow.holds Try.pinned (OpenSpec.upto fnExactValidSpec)

/-- 'laws.FnExactKey', WHERE WHAT IT READS IS OF BULK AT MOST 1048576: true; the input reads as it did. -/
def fnExactKeyUptoRow : OpenClaim := { program := "ytcphidhheigcbaa", sum := "079ad721afc2c93f91d922e892ac7ed27950bf0834c3e699c746bbec978d78ed", func := "loop.example/pub-quadtiles/laws.FnExactKey", spec := "fnExactKey", plainKeys := false, apart := false, narrowed := true }
def FnExactKeyUptoSaid : Prop := fnExactKeyUptoRow.holds Try.pinned (OpenSpec.upto fnExactKeySpec)

/-- 'laws.FnExactParent', WHERE WHAT IT READS IS OF BULK AT MOST 1048576: true; the input reads as it did. -/
def fnExactParentUptoRow : OpenClaim := { program := "ytcphidhheigcbaa", sum := "079ad721afc2c93f91d922e892ac7ed27950bf0834c3e699c746bbec978d78ed", func := "loop.example/pub-quadtiles/laws.FnExactParent", spec := "fnExactParent", plainKeys := false, apart := false, narrowed := true }
def FnExactParentUptoSaid : Prop := fnExactParentUptoRow.holds Try.pinned (OpenSpec.upto fnExactParentSpec)

/-- 'laws.FnExactChildren', WHERE WHAT IT READS IS OF BULK AT MOST 1048576: true; the input reads as it did. -/
def fnExactChildrenUptoRow : OpenClaim := { program := "ytcphidhheigcbaa", sum := "079ad721afc2c93f91d922e892ac7ed27950bf0834c3e699c746bbec978d78ed", func := "loop.example/pub-quadtiles/laws.FnExactChildren", spec := "fnExactChildren", plainKeys := false, apart := false, narrowed := true }
def FnExactChildrenUptoSaid : Prop := fnExactChildrenUptoRow.holds Try.pinned (OpenSpec.upto fnExactChildrenSpec)

/-- 'laws.FnExactContains', WHERE WHAT IT READS IS OF BULK AT MOST 1048576: true; the input reads as it did. -/
def fnExactContainsUptoRow : OpenClaim := { program := "ytcphidhheigcbaa", sum := "079ad721afc2c93f91d922e892ac7ed27950bf0834c3e699c746bbec978d78ed", func := "loop.example/pub-quadtiles/laws.FnExactContains", spec := "fnExactContains", plainKeys := false, apart := false, narrowed := true }
def FnExactContainsUptoSaid : Prop := fnExactContainsUptoRow.holds Try.pinned (OpenSpec.upto fnExactContainsSpec)

/-- 'laws.FnKeyBack', WHERE WHAT IT READS IS OF BULK AT MOST 1048576: true; the input reads as it did. -/
def fnKeyBackUptoRow : OpenClaim := { program := "ytcphidhheigcbaa", sum := "079ad721afc2c93f91d922e892ac7ed27950bf0834c3e699c746bbec978d78ed", func := "loop.example/pub-quadtiles/laws.FnKeyBack", spec := "fnKeyBack", plainKeys := false, apart := false, narrowed := true }
def FnKeyBackUptoSaid : Prop := fnKeyBackUptoRow.holds Try.pinned (OpenSpec.upto fnKeyBackSpec)

/-- 'laws.FnExactSiblings', WHERE WHAT IT READS IS OF BULK AT MOST 1048576: true; the input reads as it did. -/
def fnExactSiblingsUptoRow : OpenClaim := { program := "ytcphidhheigcbaa", sum := "079ad721afc2c93f91d922e892ac7ed27950bf0834c3e699c746bbec978d78ed", func := "loop.example/pub-quadtiles/laws.FnExactSiblings", spec := "fnExactSiblings", plainKeys := false, apart := false, narrowed := true }
def FnExactSiblingsUptoSaid : Prop := fnExactSiblingsUptoRow.holds Try.pinned (OpenSpec.upto fnExactSiblingsSpec)

/-- 'laws.FnExactRange', WHERE WHAT IT READS IS OF BULK AT MOST 1048576: true; the input reads as it did. -/
def fnExactRangeUptoRow : OpenClaim := { program := "ytcphidhheigcbaa", sum := "079ad721afc2c93f91d922e892ac7ed27950bf0834c3e699c746bbec978d78ed", func := "loop.example/pub-quadtiles/laws.FnExactRange", spec := "fnExactRange", plainKeys := false, apart := false, narrowed := true }
def FnExactRangeUptoSaid : Prop := fnExactRangeUptoRow.holds Try.pinned (OpenSpec.upto fnExactRangeSpec)

/-- 'laws.FnExactDescendants', WHERE WHAT IT READS IS OF BULK AT MOST 1048576: true; the input reads as it did. -/
def fnExactDescendantsUptoRow : OpenClaim := { program := "ytcphidhheigcbaa", sum := "079ad721afc2c93f91d922e892ac7ed27950bf0834c3e699c746bbec978d78ed", func := "loop.example/pub-quadtiles/laws.FnExactDescendants", spec := "fnExactDescendants", plainKeys := false, apart := false, narrowed := true }
def FnExactDescendantsUptoSaid : Prop := fnExactDescendantsUptoRow.holds Try.pinned (OpenSpec.upto fnExactDescendantsSpec)

/-- 'laws.FnExactShared', WHERE WHAT IT READS IS OF BULK AT MOST 1048576: true; the input reads as it did. -/
def fnExactSharedUptoRow : OpenClaim := { program := "ytcphidhheigcbaa", sum := "079ad721afc2c93f91d922e892ac7ed27950bf0834c3e699c746bbec978d78ed", func := "loop.example/pub-quadtiles/laws.FnExactShared", spec := "fnExactShared", plainKeys := false, apart := false, narrowed := true }
def FnExactSharedUptoSaid : Prop := fnExactSharedUptoRow.holds Try.pinned (OpenSpec.upto fnExactSharedSpec)

end Rows
end Go.Proofs.Ytcphidhheigcbaa
