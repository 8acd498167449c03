/- The visitors' small methods: the box and the point. No condition but how the visitor lies. -/
import Derived.Test.YtmmmknmncdlopaaDoorQuadG
namespace Go.Proofs.YtmmmknmncdlopaaDoor
open Go.ChangeShapes Go.WideShapes Go.ChangeAt Go.RowKit
open Go.Proofs.YtmmmknmncdlopaaDoor.F

theorem inb_bound {w : World} {a kb : Nat} {s f : Value} (h : w.heap[a]? = some (.cells #[pt kb, s, f] 108 (0, 0))) :
    Calls Tryd.prog 106 #[pt a] w fun e w' => e = .returned (pt kb) ∧ w = w' := by
  have C := cell_of_blk h
  clear h
  go_enter Tryd.func106, Tryd.ntmps106
  go_wp2_with fail
  exact bodyPost_ret (v := pt kb) (by simp [results, Tryd.results106, go_sem]) rfl ⟨rfl, rfl⟩
theorem inb_point (w : World) (a : Nat) :
    Calls Tryd.prog 107 #[pt a] w fun e w' => e = .returned (.agg #[fl 0, fl 0]) ∧ Ext w w' := by
  go_enter Tryd.func107, Tryd.ntmps107
  go_wp2_with fail
  exact bodyPost_ret (v := .agg #[fl 0, fl 0]) (by simp [results, Tryd.results107, go_sem]) rfl ⟨rfl, (Ext.refl _).alloc _⟩
theorem fin_bound {w : World} {a kb x y : Nat} {f c m : Value} (h : w.heap[a]? = some (.cells #[fl x, fl y, f, c, pt kb, m] 99 (0, 0))) :
    Calls Tryd.prog 100 #[pt a] w fun e w' => e = .returned (pt kb) ∧ w = w' := by
  have C := cell_of_blk h
  clear h
  go_enter Tryd.func100, Tryd.ntmps100
  go_wp2_with fail
  exact bodyPost_ret (v := pt kb) (by simp [results, Tryd.results100, go_sem]) rfl ⟨rfl, rfl⟩
theorem fin_point {w : World} {a kb x y : Nat} {f c m : Value} (h : w.heap[a]? = some (.cells #[fl x, fl y, f, c, pt kb, m] 99 (0, 0))) :
    Calls Tryd.prog 101 #[pt a] w fun e w' => e = .returned (.agg #[fl x, fl y]) ∧ Ext w w' := by
  have C := cell_of_blk (blk_old h (.cells #[fl 0, fl 0] 64))
  have st := st_fl
  have hw := (Array.getElem?_eq_some_iff.1 h).1
  clear h
  go_enter Tryd.func101, Tryd.ntmps101
  go_wp2_with fail
  exact bodyPost_ret (v := .agg #[fl x, fl y]) (by simp [results, Tryd.results101, go_sem]) rfl ⟨rfl, (Ext.refl _).alloc _⟩
theorem nea_bound {w : World} {a kb x y : Nat} {f c m q : Value} (h : w.heap[a]? = some (.cells #[fl x, fl y, f, c, m, pt kb, q] 116 (0, 0))) :
    Calls Tryd.prog 109 #[pt a] w fun e w' => e = .returned (pt kb) ∧ w = w' := by
  have C := cell_of_blk h
  clear h
  go_enter Tryd.func109, Tryd.ntmps109
  go_wp2_with fail
  exact bodyPost_ret (v := pt kb) (by simp [results, Tryd.results109, go_sem]) rfl ⟨rfl, rfl⟩
theorem nea_point {w : World} {a kb x y : Nat} {f c m q : Value} (h : w.heap[a]? = some (.cells #[fl x, fl y, f, c, m, pt kb, q] 116 (0, 0))) :
    Calls Tryd.prog 110 #[pt a] w fun e w' => e = .returned (.agg #[fl x, fl y]) ∧ Ext w w' := by
  have C := cell_of_blk (blk_old h (.cells #[fl 0, fl 0] 64))
  have st := st_fl
  have hw := (Array.getElem?_eq_some_iff.1 h).1
  clear h
  go_enter Tryd.func110, Tryd.ntmps110
  go_wp2_with fail
  exact bodyPost_ret (v := .agg #[fl x, fl y]) (by simp [results, Tryd.results110, go_sem]) rfl ⟨rfl, (Ext.refl _).alloc _⟩
theorem newvisit_any (T a : Nat) (w : World) :
    Calls Tryd.prog 48 #[.iface T (pt a)] w fun e w' => e = .returned (pt w.heap.size) ∧ w' = w.alloc (.cells #[.iface T (pt a)] 122) := by
  go_enter Tryd.func48, Tryd.ntmps48
  go_wp2_with fail
  exact bodyPost_ret (v := pt w.heap.size) (by simp [results, Tryd.results48, go_sem]) rfl ⟨rfl, rfl⟩
theorem new_tree {x0 y0 x1 y1 : Nat} (w : World) :
    Calls Tryd.prog 42 #[.agg #[fl x0, fl y0, fl x1, fl y1]] w fun e w' => e = .returned (pt (w.heap.size + 1)) ∧ Ext w w' ∧ w'.heap[w.heap.size + 1]? = some (.cells #[fl x0, fl y0, fl x1, fl y1, .pointer none] 95 (0, 0)) := by
  go_enter Tryd.func42, Tryd.ntmps42
  go_wp2_with fail
  refine bodyPost_ret (v := pt (w.heap.size + 1)) (by simp [results, Tryd.results42, go_sem]) rfl ⟨rfl, ((Ext.refl _).alloc _).alloc _, ?_⟩
  have h := blk_new (w.alloc (.cells #[fl x0, fl y0, fl x1, fl y1] 67)) (.cells #[fl x0, fl y0, fl x1, fl y1, .pointer none] 95)
  simpa using h

end Go.Proofs.YtmmmknmncdlopaaDoor
