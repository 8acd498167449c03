/-
  No cell of these rows narrows 'for every input' (looked for: loops, veiled, ifaces, maps, wideKeys, modest, calm, conditions, laid).
  DERIVED. THE GIVEN ROWS OF THIS SEAT. 3 by the template 'for every input the law returns true; each argument reads behind the call as it read before'; 0 by the template 'total and deterministic' (their statements: YtdkknlnlfaoapaaTotals.lean).
  GIVEN WITH THE SEED: the statements are not yours to turn. If you find one false, say at which input.
  Laid BY PROGRAM, IN A SANDBOX (cutbox-rows.mjs): the forced cells as the released guide's own fill.sh prints them over the translation 4653dd91195b4f36… (all of the seat's roots in one cut). By AI agents, Wed Nov 11 2026. No macro, syntax, notation, axiom, sorry.
-/
import Derived.Test.YtdkknlnlfaoapaaChecked
import GoSem.Claim
import GoSem.ClaimJoined
import GoSem.ClaimMapViews
import Derived.JoinedTies
import Derived.KernelRfl
namespace Go.Proofs.Ytdkknlnlfaoapaa
/- THE CELL 'sum', in the pinned program and in every row, IS THE sha256 OF THE DUMP (.gsa) THAT YtdkknlnlfaoapaaProg.lean LOADS. Nothing in Lean hashes anything: it is a label: what it is worth is what the hold of that sum in a sandbox is worth. -/
noncomputable def Try.pinned : Pinned := { name := "ytdkknlnlfaoapaa", sum := "4653dd91195b4f36e94b96d7185a4cbdb3886d544f170bea51fccb9a60b51eb1", checked := Try.checked }
namespace Rows
def none {H : Type} : Left H := { results := [], args := [] }

/-- 'laws.FnMergeCovers': WHATEVER THE INPUT: true; the input reads as it did. -/
def fnMergeCoversSpec : ChangeSpec := { name := "fnMergeCovers", fn := fun _ => fun
  | [d1, d2, d3] => { results := [.lit (.bool true)], args := [d1, d2, d3] }
  | _ => none }
def fnMergeCoversRow : OpenClaim := { program := "ytdkknlnlfaoapaa", sum := "4653dd91195b4f36e94b96d7185a4cbdb3886d544f170bea51fccb9a60b51eb1", func := "loop.example/pub-quadtiles/laws.FnMergeCovers", spec := "fnMergeCovers", inPlace := ["internal/reflectlite.ValueOf", "internal/reflectlite.Swapper", "(internal/reflectlite.Value).Len"], unfollowed := true, recurses := true, plainKeys := false, apart := false }
def FnMergeCoversSaid : Prop := fnMergeCoversRow.holds Try.pinned (OpenSpec.ofChange fnMergeCoversSpec)

/-- ITS FALSE NEIGHBOUR: 'it returns false'. Refute it at one input. -/
def fnMergeCoversWrong : ChangeSpec := { name := "fnMergeCovers", fn := fun _ => fun
  | [d1, d2, d3] => { results := [.lit (.bool false)], args := [d1, d2, d3] }
  | _ => none }
def FnMergeCoversWrongFalsely : Prop := fnMergeCoversRow.holds Try.pinned (OpenSpec.ofChange fnMergeCoversWrong)

/-- 'laws.FnMergeFull': WHATEVER THE INPUT: true; the input reads as it did. -/
def fnMergeFullSpec : ChangeSpec := { name := "fnMergeFull", fn := fun _ => fun
  | [d1, d2, d3] => { results := [.lit (.bool true)], args := [d1, d2, d3] }
  | _ => none }
def fnMergeFullRow : OpenClaim := { program := "ytdkknlnlfaoapaa", sum := "4653dd91195b4f36e94b96d7185a4cbdb3886d544f170bea51fccb9a60b51eb1", func := "loop.example/pub-quadtiles/laws.FnMergeFull", spec := "fnMergeFull", inPlace := ["internal/reflectlite.ValueOf", "internal/reflectlite.Swapper", "(internal/reflectlite.Value).Len"], unfollowed := true, recurses := true, plainKeys := false, apart := false }
def FnMergeFullSaid : Prop := fnMergeFullRow.holds Try.pinned (OpenSpec.ofChange fnMergeFullSpec)

/-- ITS FALSE NEIGHBOUR: 'it returns false'. Refute it at one input. -/
def fnMergeFullWrong : ChangeSpec := { name := "fnMergeFull", fn := fun _ => fun
  | [d1, d2, d3] => { results := [.lit (.bool false)], args := [d1, d2, d3] }
  | _ => none }
def FnMergeFullWrongFalsely : Prop := fnMergeFullRow.holds Try.pinned (OpenSpec.ofChange fnMergeFullWrong)

/-- 'laws.FnMergePartial': WHATEVER THE INPUT: true; the input reads as it did. -/
def fnMergePartialSpec : ChangeSpec := { name := "fnMergePartial", fn := fun _ => fun
  | [d1, d2, d3, d4] => { results := [.lit (.bool true)], args := [d1, d2, d3, d4] }
  | _ => none }
def fnMergePartialRow : OpenClaim := { program := "ytdkknlnlfaoapaa", sum := "4653dd91195b4f36e94b96d7185a4cbdb3886d544f170bea51fccb9a60b51eb1", func := "loop.example/pub-quadtiles/laws.FnMergePartial", spec := "fnMergePartial", inPlace := ["internal/reflectlite.ValueOf", "internal/reflectlite.Swapper", "(internal/reflectlite.Value).Len"], unfollowed := true, recurses := true, plainKeys := false, apart := false }
def FnMergePartialSaid : Prop := fnMergePartialRow.holds Try.pinned (OpenSpec.ofChange fnMergePartialSpec)

/-- ITS FALSE NEIGHBOUR: 'it returns false'. Refute it at one input. -/
def fnMergePartialWrong : ChangeSpec := { name := "fnMergePartial", fn := fun _ => fun
  | [d1, d2, d3, d4] => { results := [.lit (.bool false)], args := [d1, d2, d3, d4] }
  | _ => none }
def FnMergePartialWrongFalsely : Prop := fnMergePartialRow.holds Try.pinned (OpenSpec.ofChange fnMergePartialWrong)

/- THE SECOND FORM. 'bulk': how many values and letters a reading holds, each counted each time it is reached (what is shared counts as often as it is met; a slice's spare places count too). A statement '..UptoSaid' is the law's where the arguments, and the package variables that the reading takes, are together of bulk at most 1048576: NARROWER than '..Said'. Prove '..Said' where nothing that the law and all that it calls make is longer than what came in: it says more and counts as full. Else prove '..UptoSaid'. A law counts once. -/
mutual
def uptoBulk {H : Type} : DataW H → Nat
  | .lit (.string bytes) => bytes.length + 1
  | .lit _ => 1
  | .nil => 1
  | .ptr d => uptoBulk d + 1
  | .slice elems spare => uptoBulkAll elems + uptoBulkAll spare + 1
  | .agg parts => uptoBulkAll parts + 1
  | .iface _ d => uptoBulk d + 1
  | .map entries => uptoBulkEntries entries + 1
  | .held _ => 1
def uptoBulkAll {H : Type} : List (DataW H) → Nat
  | [] => 0
  | d :: r => uptoBulk d + uptoBulkAll r
def uptoBulkEntries {H : Type} : List (Lit × DataW H) → Nat
  | [] => 0
  | x :: r => uptoBulkEntry x + uptoBulkEntries r
def uptoBulkEntry {H : Type} : Lit × DataW H → Nat
  | (.string bytes, d) => bytes.length + uptoBulk d + 1
  | (_, d) => uptoBulk d + 1
 end
def uptoSmall : (H : Type) → List (DataW H) → Bool := fun _ ds => decide (uptoBulkAll ds ≤ 1048576)
def OpenSpec.upto (s : _root_.Go.ChangeSpec) : _root_.Go.OpenSpec := { _root_.Go.OpenSpec.ofChange s with cond := some uptoSmall }

/-- 'laws.FnMergeCovers', WHERE WHAT IT READS IS OF BULK AT MOST 1048576: true; the input reads as it did. -/
def fnMergeCoversUptoRow : OpenClaim := { program := "ytdkknlnlfaoapaa", sum := "4653dd91195b4f36e94b96d7185a4cbdb3886d544f170bea51fccb9a60b51eb1", func := "loop.example/pub-quadtiles/laws.FnMergeCovers", spec := "fnMergeCovers", inPlace := ["internal/reflectlite.ValueOf", "internal/reflectlite.Swapper", "(internal/reflectlite.Value).Len"], unfollowed := true, recurses := true, plainKeys := false, apart := false, narrowed := true }
def FnMergeCoversUptoSaid : Prop := fnMergeCoversUptoRow.holds Try.pinned (OpenSpec.upto fnMergeCoversSpec)

/-- 'laws.FnMergeFull', WHERE WHAT IT READS IS OF BULK AT MOST 1048576: true; the input reads as it did. -/
def fnMergeFullUptoRow : OpenClaim := { program := "ytdkknlnlfaoapaa", sum := "4653dd91195b4f36e94b96d7185a4cbdb3886d544f170bea51fccb9a60b51eb1", func := "loop.example/pub-quadtiles/laws.FnMergeFull", spec := "fnMergeFull", inPlace := ["internal/reflectlite.ValueOf", "internal/reflectlite.Swapper", "(internal/reflectlite.Value).Len"], unfollowed := true, recurses := true, plainKeys := false, apart := false, narrowed := true }
def FnMergeFullUptoSaid : Prop := fnMergeFullUptoRow.holds Try.pinned (OpenSpec.upto fnMergeFullSpec)

/-- 'laws.FnMergePartial', WHERE WHAT IT READS IS OF BULK AT MOST 1048576: true; the input reads as it did. -/
def fnMergePartialUptoRow : OpenClaim := { program := "ytdkknlnlfaoapaa", sum := "4653dd91195b4f36e94b96d7185a4cbdb3886d544f170bea51fccb9a60b51eb1", func := "loop.example/pub-quadtiles/laws.FnMergePartial", spec := "fnMergePartial", inPlace := ["internal/reflectlite.ValueOf", "internal/reflectlite.Swapper", "(internal/reflectlite.Value).Len"], unfollowed := true, recurses := true, plainKeys := false, apart := false, narrowed := true }
def FnMergePartialUptoSaid : Prop := fnMergePartialUptoRow.holds Try.pinned (OpenSpec.upto fnMergePartialSpec)

end Rows
end Go.Proofs.Ytdkknlnlfaoapaa
