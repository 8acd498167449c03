/- The error's variable: what the row's condition gives of it; a world that meets the condition. No condition. -/
import Derived.Test.YtmmmknmncdlopaaDoorQuadO
import Derived.ChangeSame
import Derived.ChangeVars
import Derived.JoinedOf
import Derived.RowKit
import Derived.RowKitTokens
import Derived.LaidLaws
import Derived.LaidMore
import Derived.Stop.ErrReads
import Derived.Stop.Joined
namespace Go.Proofs.YtmmmknmncdlopaaDoor
open Go.ChangeShapes Go.WideShapes Go.ChangeAt Go.RowKit

abbrev errName : String := "loop.example/pub-quadtiles/pub/orbquadtree.ErrPointOutsideOfBounds"
theorem ownKn : ownKnob Tryd.prog.godebug = none := by kernel_rfl
theorem laidOut : laidOutB Tryd.prog = true := by kernel_rfl
theorem gErr : Tryd.prog.globalNamed errName = some 0 := by kernel_rfl
theorem tErr : (Tryd.prog.globals[0]?).map (·.type) = some 87 := by kernel_rfl
theorem nameE : Tryd.prog.typeName? 3 128 = some "*errors.errorString" := by kernel_rfl
theorem cellsE : Tryd.prog.cellsOf 163 = 1 := by kernel_rfl
theorem cellsS : Tryd.prog.cellsOf 9 = 1 := by kernel_rfl
theorem starE : "*" ++ "errors.errorString" = "*errors.errorString" := by decide
theorem rowE (u : TypeId) (h : Tryd.prog.typeName? 3 u = some "*errors.errorString") : u = 128 :=
  typeName_ptr_named (nm := "errors.errorString") (by rw [starE]; kernel_rfl) (by kernel_rfl) (by decide) u (by rw [starE]; exact h)
abbrev laidE : List (String × DataW Unit) := [(errName, Rows.laid_loop_example_pub_quadtiles_pub_orbquadtree_ErrPointOutsideOfBounds)]

set_option maxRecDepth 100000 in
/-- What the condition gives of the variable: it holds a pointer. -/
theorem err_of_laid {W : World} (h : laidMetH Tryd.prog laidE W) : ∃ a0 : Addr, W.var? Tryd.prog errName = some #[.iface 128 (.pointer (some a0))] := by
  rw [MakeChecks.laidMetH_plain _ _ _ (by kernel_rfl)] at h
  obtain ⟨ps, ⟨g0, t0, cs0, f0, p0, q0, hg0, ht0, hv0, hd0, hq0, e0⟩, hnd, hrows⟩ := h
  obtain rfl := Option.some.inj (gErr.symm.trans hg0)
  obtain rfl := Option.some.inj (tErr.symm.trans ht0)
  have hq0' : q0 = [] := hq0
  subst hq0'
  subst e0
  obtain ⟨l0⟩ := cs0
  have ok0 : ∀ u v, l0 = [.iface u v] → Value.okWide Tryd.prog W .any 0 u v := fun u v e => by
    subst e
    exact (hrows 0 0 (by simp [MemPlace.row])).2 u v (by simpa using World.var?_cell hg0 hv0 0)
  obtain ⟨a0, s0, rfl, hc0, hs0, hz0, rfl⟩ := errorString_of_trod Tryd.underlying87 rowE Tryd.underlying128 Tryd.underlying163 rfl rfl Tryd.underlying9 cellsE cellsS hd0 ok0
  exact ⟨a0, hv0⟩
set_option maxRecDepth 100000 in
/-- The heap of the door meets the condition. -/
theorem door_met (os : Os) (args : Array Value) : laidMetH Tryd.prog laidE ((World.doorLaid Tryd.prog 400 os).forCall (fun _ _ => 0) ⟨#[], args, []⟩).memory :=
  laidMetH_of_parts3 (fuel := 8) (laidMet_of_run' 8 (by kernel_rfl) (by kernel_rfl)) (by kernel_rfl) (by kernel_rfl)
/-- How the variable reads. -/
theorem var_read {H : Type} (enc : TypeId × Value → H) {W : World} {x0 : Value} (h0 : W.var? Tryd.prog errName = some #[x0]) (i0 : IsIface x0) (sp : Nat → Bool) :
    DataW.TrodVars enc Tryd.prog W sp [errName] [tok enc x0] [.cell 0 0] :=
  ⟨0, 87, #[x0], 1, [], [], gErr, tErr, h0, trod_held Tryd.underlying87 i0 0, rfl, rfl⟩
theorem var_below {w w' : World} {cs : Array Value} (h : Below w.heap.size w w') (hv : w.var? Tryd.prog errName = some cs) : w'.var? Tryd.prog errName = some cs := by
  unfold World.var? at hv ⊢
  rw [gErr] at hv ⊢
  simp only [Option.bind_some] at hv ⊢
  have hlt : 0 < w.heap.size := by
    rcases Nat.eq_zero_or_pos w.heap.size with h' | h'
    · rw [Array.getElem?_eq_none (by omega)] at hv; cases hv
    · exact h'
  rw [h.block 0 hlt]
  exact hv
theorem err_cell {W : World} {a0 : Addr} (h : W.var? Tryd.prog errName = some #[.iface 128 (.pointer (some a0))]) : W.cell? ⟨0, 0, none⟩ = some (.iface 128 (.pointer (some a0))) := by
  simpa using World.var?_cell gErr h 0

end Go.Proofs.YtmmmknmncdlopaaDoor
