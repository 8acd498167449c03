/-
  NARROWER THAN 'FOR EVERY INPUT', by the rows' own cells (each row's printed sentence says how): FnStepsTurn: ifaces, laid · FnExactNearest: ifaces, laid · FnExactNearestWithin: ifaces, laid · FnExactFind: ifaces, laid · FnExactFindEven: ifaces, laid · FnExactGrown: ifaces, laid · FnExactInBound: ifaces, laid · FnExactInBoundEven: ifaces, laid.
  DERIVED. THE GIVEN ROWS OF THIS SEAT. 8 by the template 'for every input the law returns true; each argument reads behind the call as it read before'; 0 by the template 'total and deterministic' (their statements: YtmmmknmncdlopaaDoorTotals.lean).
  GIVEN WITH THE SEED: the statements are not yours to turn. If you find one false, say at which input.
  Laid BY PROGRAM, IN A SANDBOX (cutbox-rows.mjs): the forced cells as the released guide's own fill.sh prints them over the translation 181f675f0f5d180e… (all of the seat's roots in one cut). By AI agents, Wed Nov 11 2026. No macro, syntax, notation, axiom, sorry.
-/
import Derived.Test.YtmmmknmncdlopaaDoorChecked
import GoSem.Claim
import GoSem.ClaimJoined
import GoSem.ClaimMapViews
import Derived.JoinedTies
import Derived.KernelRfl
namespace Go.Proofs.YtmmmknmncdlopaaDoor
/- THE CELL 'sum', in the pinned program and in every row, IS THE sha256 OF THE DUMP (.gsa) THAT YtmmmknmncdlopaaDoorProg.lean LOADS. Nothing in Lean hashes anything: it is a label: what it is worth is what the hold of that sum in a sandbox is worth. -/
noncomputable def Tryd.pinned : Pinned := { name := "ytmmmknmncdlopaadoor", sum := "181f675f0f5d180ec7b301173031f4e5aad0feb567dce5fe1980505bcac83dc0", checked := Tryd.checked }
namespace Rows
def none {H : Type} : Left H := { results := [], args := [] }

/- WHAT THE LISTED PACKAGE-LEVEL VARIABLES READ AS WHEN THE CALL BEGINS. Each datum BY PROGRAM (the guide's laid-datum.mjs) off the statement by which the dump's own 'gosem.cut.vars' lays the variable. In a bare row this is a premise. The card (YtmmmknmncdlopaaDoorCards.lean) ties it to the program's text. -/
def laid_loop_example_pub_quadtiles_pub_orbquadtree_ErrPointOutsideOfBounds {H : Type} : DataW H := .iface "*errors.errorString" (.ptr (.agg [.lit (.string [113, 117, 97, 100, 116, 114, 101, 101, 58, 32, 112, 111, 105, 110, 116, 32, 111, 117, 116, 115, 105, 100, 101, 32, 111, 102, 32, 98, 111, 117, 110, 100, 115])]))

/-- 'laws.FnStepsTurn': WHATEVER THE INPUT: true; the input reads as it did. -/
def fnStepsTurnSpec : ChangeSpec := { name := "fnStepsTurn", vars := ["loop.example/pub-quadtiles/pub/orbquadtree.ErrPointOutsideOfBounds"], fn := fun _ => fun
  | [d1, d2, d3, d4, d5, d6, d7, d8, d9, g1] => { results := [.lit (.bool true)], args := [d1, d2, d3, d4, d5, d6, d7, d8, d9], vars := [g1] }
  | _ => none }
def fnStepsTurnRow : OpenClaim := { program := "ytmmmknmncdlopaadoor", sum := "181f675f0f5d180ec7b301173031f4e5aad0feb567dce5fe1980505bcac83dc0", func := "loop.example/pub-quadtiles/laws.FnStepsTurn", spec := "fnStepsTurn", unfollowed := true, recurses := true, named := ["loop.example/pub-quadtiles/pub/orbquadtree.ErrPointOutsideOfBounds"], ifaces := true, apart := false, laid := [("loop.example/pub-quadtiles/pub/orbquadtree.ErrPointOutsideOfBounds", laid_loop_example_pub_quadtiles_pub_orbquadtree_ErrPointOutsideOfBounds)] }
def FnStepsTurnSaid : Prop := fnStepsTurnRow.holds Tryd.pinned (OpenSpec.ofChange fnStepsTurnSpec)

/-- ITS FALSE NEIGHBOUR: 'it returns false'. Refute it at one input. -/
def fnStepsTurnWrong : ChangeSpec := { name := "fnStepsTurn", vars := ["loop.example/pub-quadtiles/pub/orbquadtree.ErrPointOutsideOfBounds"], fn := fun _ => fun
  | [d1, d2, d3, d4, d5, d6, d7, d8, d9, g1] => { results := [.lit (.bool false)], args := [d1, d2, d3, d4, d5, d6, d7, d8, d9], vars := [g1] }
  | _ => none }
def FnStepsTurnWrongFalsely : Prop := fnStepsTurnRow.holds Tryd.pinned (OpenSpec.ofChange fnStepsTurnWrong)

/-- 'laws.FnExactNearest': WHATEVER THE INPUT: true; the input reads as it did. -/
def fnExactNearestSpec : ChangeSpec := { name := "fnExactNearest", vars := ["loop.example/pub-quadtiles/pub/orbquadtree.ErrPointOutsideOfBounds"], fn := fun _ => fun
  | [d1, d2, d3, d4, d5, d6, d7, d8, g1] => { results := [.lit (.bool true)], args := [d1, d2, d3, d4, d5, d6, d7, d8], vars := [g1] }
  | _ => none }
def fnExactNearestRow : OpenClaim := { program := "ytmmmknmncdlopaadoor", sum := "181f675f0f5d180ec7b301173031f4e5aad0feb567dce5fe1980505bcac83dc0", func := "loop.example/pub-quadtiles/laws.FnExactNearest", spec := "fnExactNearest", unfollowed := true, recurses := true, named := ["loop.example/pub-quadtiles/pub/orbquadtree.ErrPointOutsideOfBounds"], ifaces := true, apart := false, laid := [("loop.example/pub-quadtiles/pub/orbquadtree.ErrPointOutsideOfBounds", laid_loop_example_pub_quadtiles_pub_orbquadtree_ErrPointOutsideOfBounds)] }
def FnExactNearestSaid : Prop := fnExactNearestRow.holds Tryd.pinned (OpenSpec.ofChange fnExactNearestSpec)

/-- ITS FALSE NEIGHBOUR: 'it returns false'. Refute it at one input. -/
def fnExactNearestWrong : ChangeSpec := { name := "fnExactNearest", vars := ["loop.example/pub-quadtiles/pub/orbquadtree.ErrPointOutsideOfBounds"], fn := fun _ => fun
  | [d1, d2, d3, d4, d5, d6, d7, d8, g1] => { results := [.lit (.bool false)], args := [d1, d2, d3, d4, d5, d6, d7, d8], vars := [g1] }
  | _ => none }
def FnExactNearestWrongFalsely : Prop := fnExactNearestRow.holds Tryd.pinned (OpenSpec.ofChange fnExactNearestWrong)

/-- 'laws.FnExactNearestWithin': WHATEVER THE INPUT: true; the input reads as it did. -/
def fnExactNearestWithinSpec : ChangeSpec := { name := "fnExactNearestWithin", vars := ["loop.example/pub-quadtiles/pub/orbquadtree.ErrPointOutsideOfBounds"], fn := fun _ => fun
  | [d1, d2, d3, d4, d5, d6, d7, d8, d9, g1] => { results := [.lit (.bool true)], args := [d1, d2, d3, d4, d5, d6, d7, d8, d9], vars := [g1] }
  | _ => none }
def fnExactNearestWithinRow : OpenClaim := { program := "ytmmmknmncdlopaadoor", sum := "181f675f0f5d180ec7b301173031f4e5aad0feb567dce5fe1980505bcac83dc0", func := "loop.example/pub-quadtiles/laws.FnExactNearestWithin", spec := "fnExactNearestWithin", unfollowed := true, recurses := true, named := ["loop.example/pub-quadtiles/pub/orbquadtree.ErrPointOutsideOfBounds"], ifaces := true, apart := false, laid := [("loop.example/pub-quadtiles/pub/orbquadtree.ErrPointOutsideOfBounds", laid_loop_example_pub_quadtiles_pub_orbquadtree_ErrPointOutsideOfBounds)] }
def FnExactNearestWithinSaid : Prop := fnExactNearestWithinRow.holds Tryd.pinned (OpenSpec.ofChange fnExactNearestWithinSpec)

/-- ITS FALSE NEIGHBOUR: 'it returns false'. Refute it at one input. -/
def fnExactNearestWithinWrong : ChangeSpec := { name := "fnExactNearestWithin", vars := ["loop.example/pub-quadtiles/pub/orbquadtree.ErrPointOutsideOfBounds"], fn := fun _ => fun
  | [d1, d2, d3, d4, d5, d6, d7, d8, d9, g1] => { results := [.lit (.bool false)], args := [d1, d2, d3, d4, d5, d6, d7, d8, d9], vars := [g1] }
  | _ => none }
def FnExactNearestWithinWrongFalsely : Prop := fnExactNearestWithinRow.holds Tryd.pinned (OpenSpec.ofChange fnExactNearestWithinWrong)

/-- 'laws.FnExactFind': WHATEVER THE INPUT: true; the input reads as it did. -/
def fnExactFindSpec : ChangeSpec := { name := "fnExactFind", vars := ["loop.example/pub-quadtiles/pub/orbquadtree.ErrPointOutsideOfBounds"], fn := fun _ => fun
  | [d1, d2, d3, d4, d5, d6, d7, g1] => { results := [.lit (.bool true)], args := [d1, d2, d3, d4, d5, d6, d7], vars := [g1] }
  | _ => none }
def fnExactFindRow : OpenClaim := { program := "ytmmmknmncdlopaadoor", sum := "181f675f0f5d180ec7b301173031f4e5aad0feb567dce5fe1980505bcac83dc0", func := "loop.example/pub-quadtiles/laws.FnExactFind", spec := "fnExactFind", unfollowed := true, recurses := true, named := ["loop.example/pub-quadtiles/pub/orbquadtree.ErrPointOutsideOfBounds"], ifaces := true, apart := false, laid := [("loop.example/pub-quadtiles/pub/orbquadtree.ErrPointOutsideOfBounds", laid_loop_example_pub_quadtiles_pub_orbquadtree_ErrPointOutsideOfBounds)] }
def FnExactFindSaid : Prop := fnExactFindRow.holds Tryd.pinned (OpenSpec.ofChange fnExactFindSpec)

/-- ITS FALSE NEIGHBOUR: 'it returns false'. Refute it at one input. -/
def fnExactFindWrong : ChangeSpec := { name := "fnExactFind", vars := ["loop.example/pub-quadtiles/pub/orbquadtree.ErrPointOutsideOfBounds"], fn := fun _ => fun
  | [d1, d2, d3, d4, d5, d6, d7, g1] => { results := [.lit (.bool false)], args := [d1, d2, d3, d4, d5, d6, d7], vars := [g1] }
  | _ => none }
def FnExactFindWrongFalsely : Prop := fnExactFindRow.holds Tryd.pinned (OpenSpec.ofChange fnExactFindWrong)

/-- 'laws.FnExactFindEven': WHATEVER THE INPUT: true; the input reads as it did. -/
def fnExactFindEvenSpec : ChangeSpec := { name := "fnExactFindEven", vars := ["loop.example/pub-quadtiles/pub/orbquadtree.ErrPointOutsideOfBounds"], fn := fun _ => fun
  | [d1, d2, d3, d4, d5, d6, d7, g1] => { results := [.lit (.bool true)], args := [d1, d2, d3, d4, d5, d6, d7], vars := [g1] }
  | _ => none }
def fnExactFindEvenRow : OpenClaim := { program := "ytmmmknmncdlopaadoor", sum := "181f675f0f5d180ec7b301173031f4e5aad0feb567dce5fe1980505bcac83dc0", func := "loop.example/pub-quadtiles/laws.FnExactFindEven", spec := "fnExactFindEven", unfollowed := true, recurses := true, named := ["loop.example/pub-quadtiles/pub/orbquadtree.ErrPointOutsideOfBounds"], ifaces := true, apart := false, laid := [("loop.example/pub-quadtiles/pub/orbquadtree.ErrPointOutsideOfBounds", laid_loop_example_pub_quadtiles_pub_orbquadtree_ErrPointOutsideOfBounds)] }
def FnExactFindEvenSaid : Prop := fnExactFindEvenRow.holds Tryd.pinned (OpenSpec.ofChange fnExactFindEvenSpec)

/-- ITS FALSE NEIGHBOUR: 'it returns false'. Refute it at one input. -/
def fnExactFindEvenWrong : ChangeSpec := { name := "fnExactFindEven", vars := ["loop.example/pub-quadtiles/pub/orbquadtree.ErrPointOutsideOfBounds"], fn := fun _ => fun
  | [d1, d2, d3, d4, d5, d6, d7, g1] => { results := [.lit (.bool false)], args := [d1, d2, d3, d4, d5, d6, d7], vars := [g1] }
  | _ => none }
def FnExactFindEvenWrongFalsely : Prop := fnExactFindEvenRow.holds Tryd.pinned (OpenSpec.ofChange fnExactFindEvenWrong)

/-- 'laws.FnExactGrown': WHATEVER THE INPUT: true; the input reads as it did. -/
def fnExactGrownSpec : ChangeSpec := { name := "fnExactGrown", vars := ["loop.example/pub-quadtiles/pub/orbquadtree.ErrPointOutsideOfBounds"], fn := fun _ => fun
  | [d1, d2, d3, d4, d5, g1] => { results := [.lit (.bool true)], args := [d1, d2, d3, d4, d5], vars := [g1] }
  | _ => none }
def fnExactGrownRow : OpenClaim := { program := "ytmmmknmncdlopaadoor", sum := "181f675f0f5d180ec7b301173031f4e5aad0feb567dce5fe1980505bcac83dc0", func := "loop.example/pub-quadtiles/laws.FnExactGrown", spec := "fnExactGrown", unfollowed := true, recurses := true, named := ["loop.example/pub-quadtiles/pub/orbquadtree.ErrPointOutsideOfBounds"], ifaces := true, apart := false, laid := [("loop.example/pub-quadtiles/pub/orbquadtree.ErrPointOutsideOfBounds", laid_loop_example_pub_quadtiles_pub_orbquadtree_ErrPointOutsideOfBounds)] }
def FnExactGrownSaid : Prop := fnExactGrownRow.holds Tryd.pinned (OpenSpec.ofChange fnExactGrownSpec)

/-- ITS FALSE NEIGHBOUR: 'it returns false'. Refute it at one input. -/
def fnExactGrownWrong : ChangeSpec := { name := "fnExactGrown", vars := ["loop.example/pub-quadtiles/pub/orbquadtree.ErrPointOutsideOfBounds"], fn := fun _ => fun
  | [d1, d2, d3, d4, d5, g1] => { results := [.lit (.bool false)], args := [d1, d2, d3, d4, d5], vars := [g1] }
  | _ => none }
def FnExactGrownWrongFalsely : Prop := fnExactGrownRow.holds Tryd.pinned (OpenSpec.ofChange fnExactGrownWrong)

/-- 'laws.FnExactInBound': WHATEVER THE INPUT: true; the input reads as it did. -/
def fnExactInBoundSpec : ChangeSpec := { name := "fnExactInBound", vars := ["loop.example/pub-quadtiles/pub/orbquadtree.ErrPointOutsideOfBounds"], fn := fun _ => fun
  | [d1, d2, d3, d4, d5, d6, d7, d8, d9, g1] => { results := [.lit (.bool true)], args := [d1, d2, d3, d4, d5, d6, d7, d8, d9], vars := [g1] }
  | _ => none }
def fnExactInBoundRow : OpenClaim := { program := "ytmmmknmncdlopaadoor", sum := "181f675f0f5d180ec7b301173031f4e5aad0feb567dce5fe1980505bcac83dc0", func := "loop.example/pub-quadtiles/laws.FnExactInBound", spec := "fnExactInBound", unfollowed := true, recurses := true, named := ["loop.example/pub-quadtiles/pub/orbquadtree.ErrPointOutsideOfBounds"], ifaces := true, apart := false, laid := [("loop.example/pub-quadtiles/pub/orbquadtree.ErrPointOutsideOfBounds", laid_loop_example_pub_quadtiles_pub_orbquadtree_ErrPointOutsideOfBounds)] }
def FnExactInBoundSaid : Prop := fnExactInBoundRow.holds Tryd.pinned (OpenSpec.ofChange fnExactInBoundSpec)

/-- ITS FALSE NEIGHBOUR: 'it returns false'. Refute it at one input. -/
def fnExactInBoundWrong : ChangeSpec := { name := "fnExactInBound", vars := ["loop.example/pub-quadtiles/pub/orbquadtree.ErrPointOutsideOfBounds"], fn := fun _ => fun
  | [d1, d2, d3, d4, d5, d6, d7, d8, d9, g1] => { results := [.lit (.bool false)], args := [d1, d2, d3, d4, d5, d6, d7, d8, d9], vars := [g1] }
  | _ => none }
def FnExactInBoundWrongFalsely : Prop := fnExactInBoundRow.holds Tryd.pinned (OpenSpec.ofChange fnExactInBoundWrong)

/-- 'laws.FnExactInBoundEven': WHATEVER THE INPUT: true; the input reads as it did. -/
def fnExactInBoundEvenSpec : ChangeSpec := { name := "fnExactInBoundEven", vars := ["loop.example/pub-quadtiles/pub/orbquadtree.ErrPointOutsideOfBounds"], fn := fun _ => fun
  | [d1, d2, d3, d4, d5, d6, d7, d8, d9, g1] => { results := [.lit (.bool true)], args := [d1, d2, d3, d4, d5, d6, d7, d8, d9], vars := [g1] }
  | _ => none }
def fnExactInBoundEvenRow : OpenClaim := { program := "ytmmmknmncdlopaadoor", sum := "181f675f0f5d180ec7b301173031f4e5aad0feb567dce5fe1980505bcac83dc0", func := "loop.example/pub-quadtiles/laws.FnExactInBoundEven", spec := "fnExactInBoundEven", unfollowed := true, recurses := true, named := ["loop.example/pub-quadtiles/pub/orbquadtree.ErrPointOutsideOfBounds"], ifaces := true, apart := false, laid := [("loop.example/pub-quadtiles/pub/orbquadtree.ErrPointOutsideOfBounds", laid_loop_example_pub_quadtiles_pub_orbquadtree_ErrPointOutsideOfBounds)] }
def FnExactInBoundEvenSaid : Prop := fnExactInBoundEvenRow.holds Tryd.pinned (OpenSpec.ofChange fnExactInBoundEvenSpec)

/-- ITS FALSE NEIGHBOUR: 'it returns false'. Refute it at one input. -/
def fnExactInBoundEvenWrong : ChangeSpec := { name := "fnExactInBoundEven", vars := ["loop.example/pub-quadtiles/pub/orbquadtree.ErrPointOutsideOfBounds"], fn := fun _ => fun
  | [d1, d2, d3, d4, d5, d6, d7, d8, d9, g1] => { results := [.lit (.bool false)], args := [d1, d2, d3, d4, d5, d6, d7, d8, d9], vars := [g1] }
  | _ => none }
def FnExactInBoundEvenWrongFalsely : Prop := fnExactInBoundEvenRow.holds Tryd.pinned (OpenSpec.ofChange fnExactInBoundEvenWrong)

/- THE SECOND FORM. 'bulk': how many values and letters a reading holds, each counted each time it is reached (what is shared counts as often as it is met; a slice's spare places count too). A statement '..UptoSaid' is the law's where the arguments, and the package variables that the reading takes, are together of bulk at most 1048576: NARROWER than '..Said'. Prove '..Said' where nothing that the law and all that it calls make is longer than what came in: it says more and counts as full. Else prove '..UptoSaid'. A law counts once. -/
mutual
def uptoBulk {H : Type} : DataW H → Nat
  | .lit (.string bytes) => bytes.length + 1
  | .lit _ => 1
  | .nil => 1
  | .ptr d => uptoBulk d + 1
  | .slice elems spare => uptoBulkAll elems + uptoBulkAll spare + 1
  | .agg parts => uptoBulkAll parts + 1
  | .iface _ d => uptoBulk d + 1
  | .map entries => uptoBulkEntries entries + 1
  | .held _ => 1
def uptoBulkAll {H : Type} : List (DataW H) → Nat
  | [] => 0
  | d :: r => uptoBulk d + uptoBulkAll r
def uptoBulkEntries {H : Type} : List (Lit × DataW H) → Nat
  | [] => 0
  | x :: r => uptoBulkEntry x + uptoBulkEntries r
def uptoBulkEntry {H : Type} : Lit × DataW H → Nat
  | (.string bytes, d) => bytes.length + uptoBulk d + 1
  | (_, d) => uptoBulk d + 1
 end
def uptoSmall : (H : Type) → List (DataW H) → Bool := fun _ ds => decide (uptoBulkAll ds ≤ 1048576)
def OpenSpec.upto (s : _root_.Go.ChangeSpec) : _root_.Go.OpenSpec := { _root_.Go.OpenSpec.ofChange s with cond := some uptoSmall }

/-- 'laws.FnStepsTurn', WHERE WHAT IT READS IS OF BULK AT MOST 1048576: true; the input reads as it did. -/
def fnStepsTurnUptoRow : OpenClaim := { program := "ytmmmknmncdlopaadoor", sum := "181f675f0f5d180ec7b301173031f4e5aad0feb567dce5fe1980505bcac83dc0", func := "loop.example/pub-quadtiles/laws.FnStepsTurn", spec := "fnStepsTurn", unfollowed := true, recurses := true, named := ["loop.example/pub-quadtiles/pub/orbquadtree.ErrPointOutsideOfBounds"], ifaces := true, apart := false, laid := [("loop.example/pub-quadtiles/pub/orbquadtree.ErrPointOutsideOfBounds", laid_loop_example_pub_quadtiles_pub_orbquadtree_ErrPointOutsideOfBounds)], narrowed := true }
def FnStepsTurnUptoSaid : Prop := fnStepsTurnUptoRow.holds Tryd.pinned (OpenSpec.upto fnStepsTurnSpec)

/-- 'laws.FnExactNearest', WHERE WHAT IT READS IS OF BULK AT MOST 1048576: true; the input reads as it did. -/
def fnExactNearestUptoRow : OpenClaim := { program := "ytmmmknmncdlopaadoor", sum := "181f675f0f5d180ec7b301173031f4e5aad0feb567dce5fe1980505bcac83dc0", func := "loop.example/pub-quadtiles/laws.FnExactNearest", spec := "fnExactNearest", unfollowed := true, recurses := true, named := ["loop.example/pub-quadtiles/pub/orbquadtree.ErrPointOutsideOfBounds"], ifaces := true, apart := false, laid := [("loop.example/pub-quadtiles/pub/orbquadtree.ErrPointOutsideOfBounds", laid_loop_example_pub_quadtiles_pub_orbquadtree_ErrPointOutsideOfBounds)], narrowed := true }
def FnExactNearestUptoSaid : Prop := fnExactNearestUptoRow.holds Tryd.pinned (OpenSpec.upto fnExactNearestSpec)

/-- 'laws.FnExactNearestWithin', WHERE WHAT IT READS IS OF BULK AT MOST 1048576: true; the input reads as it did. -/
def fnExactNearestWithinUptoRow : OpenClaim := { program := "ytmmmknmncdlopaadoor", sum := "181f675f0f5d180ec7b301173031f4e5aad0feb567dce5fe1980505bcac83dc0", func := "loop.example/pub-quadtiles/laws.FnExactNearestWithin", spec := "fnExactNearestWithin", unfollowed := true, recurses := true, named := ["loop.example/pub-quadtiles/pub/orbquadtree.ErrPointOutsideOfBounds"], ifaces := true, apart := false, laid := [("loop.example/pub-quadtiles/pub/orbquadtree.ErrPointOutsideOfBounds", laid_loop_example_pub_quadtiles_pub_orbquadtree_ErrPointOutsideOfBounds)], narrowed := true }
def FnExactNearestWithinUptoSaid : Prop := fnExactNearestWithinUptoRow.holds Tryd.pinned (OpenSpec.upto fnExactNearestWithinSpec)

/-- 'laws.FnExactFind', WHERE WHAT IT READS IS OF BULK AT MOST 1048576: true; the input reads as it did. -/
def fnExactFindUptoRow : OpenClaim := { program := "ytmmmknmncdlopaadoor", sum := "181f675f0f5d180ec7b301173031f4e5aad0feb567dce5fe1980505bcac83dc0", func := "loop.example/pub-quadtiles/laws.FnExactFind", spec := "fnExactFind", unfollowed := true, recurses := true, named := ["loop.example/pub-quadtiles/pub/orbquadtree.ErrPointOutsideOfBounds"], ifaces := true, apart := false, laid := [("loop.example/pub-quadtiles/pub/orbquadtree.ErrPointOutsideOfBounds", laid_loop_example_pub_quadtiles_pub_orbquadtree_ErrPointOutsideOfBounds)], narrowed := true }
def FnExactFindUptoSaid : Prop := fnExactFindUptoRow.holds Tryd.pinned (OpenSpec.upto fnExactFindSpec)

/-- 'laws.FnExactFindEven', WHERE WHAT IT READS IS OF BULK AT MOST 1048576: true; the input reads as it did. -/
def fnExactFindEvenUptoRow : OpenClaim := { program := "ytmmmknmncdlopaadoor", sum := "181f675f0f5d180ec7b301173031f4e5aad0feb567dce5fe1980505bcac83dc0", func := "loop.example/pub-quadtiles/laws.FnExactFindEven", spec := "fnExactFindEven", unfollowed := true, recurses := true, named := ["loop.example/pub-quadtiles/pub/orbquadtree.ErrPointOutsideOfBounds"], ifaces := true, apart := false, laid := [("loop.example/pub-quadtiles/pub/orbquadtree.ErrPointOutsideOfBounds", laid_loop_example_pub_quadtiles_pub_orbquadtree_ErrPointOutsideOfBounds)], narrowed := true }
def FnExactFindEvenUptoSaid : Prop := fnExactFindEvenUptoRow.holds Tryd.pinned (OpenSpec.upto fnExactFindEvenSpec)

/-- 'laws.FnExactGrown', WHERE WHAT IT READS IS OF BULK AT MOST 1048576: true; the input reads as it did. -/
def fnExactGrownUptoRow : OpenClaim := { program := "ytmmmknmncdlopaadoor", sum := "181f675f0f5d180ec7b301173031f4e5aad0feb567dce5fe1980505bcac83dc0", func := "loop.example/pub-quadtiles/laws.FnExactGrown", spec := "fnExactGrown", unfollowed := true, recurses := true, named := ["loop.example/pub-quadtiles/pub/orbquadtree.ErrPointOutsideOfBounds"], ifaces := true, apart := false, laid := [("loop.example/pub-quadtiles/pub/orbquadtree.ErrPointOutsideOfBounds", laid_loop_example_pub_quadtiles_pub_orbquadtree_ErrPointOutsideOfBounds)], narrowed := true }
def FnExactGrownUptoSaid : Prop := fnExactGrownUptoRow.holds Tryd.pinned (OpenSpec.upto fnExactGrownSpec)

/-- 'laws.FnExactInBound', WHERE WHAT IT READS IS OF BULK AT MOST 1048576: true; the input reads as it did. -/
def fnExactInBoundUptoRow : OpenClaim := { program := "ytmmmknmncdlopaadoor", sum := "181f675f0f5d180ec7b301173031f4e5aad0feb567dce5fe1980505bcac83dc0", func := "loop.example/pub-quadtiles/laws.FnExactInBound", spec := "fnExactInBound", unfollowed := true, recurses := true, named := ["loop.example/pub-quadtiles/pub/orbquadtree.ErrPointOutsideOfBounds"], ifaces := true, apart := false, laid := [("loop.example/pub-quadtiles/pub/orbquadtree.ErrPointOutsideOfBounds", laid_loop_example_pub_quadtiles_pub_orbquadtree_ErrPointOutsideOfBounds)], narrowed := true }
def FnExactInBoundUptoSaid : Prop := fnExactInBoundUptoRow.holds Tryd.pinned (OpenSpec.upto fnExactInBoundSpec)

/-- 'laws.FnExactInBoundEven', WHERE WHAT IT READS IS OF BULK AT MOST 1048576: true; the input reads as it did. -/
def fnExactInBoundEvenUptoRow : OpenClaim := { program := "ytmmmknmncdlopaadoor", sum := "181f675f0f5d180ec7b301173031f4e5aad0feb567dce5fe1980505bcac83dc0", func := "loop.example/pub-quadtiles/laws.FnExactInBoundEven", spec := "fnExactInBoundEven", unfollowed := true, recurses := true, named := ["loop.example/pub-quadtiles/pub/orbquadtree.ErrPointOutsideOfBounds"], ifaces := true, apart := false, laid := [("loop.example/pub-quadtiles/pub/orbquadtree.ErrPointOutsideOfBounds", laid_loop_example_pub_quadtiles_pub_orbquadtree_ErrPointOutsideOfBounds)], narrowed := true }
def FnExactInBoundEvenUptoSaid : Prop := fnExactInBoundEvenUptoRow.holds Tryd.pinned (OpenSpec.upto fnExactInBoundEvenSpec)

end Rows
end Go.Proofs.YtmmmknmncdlopaaDoor
