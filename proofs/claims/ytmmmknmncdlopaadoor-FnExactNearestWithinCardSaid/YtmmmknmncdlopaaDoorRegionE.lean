/- Regions whose order is left open, the facts on old cells handed on. No condition. -/
import Derived.Test.YtmmmknmncdlopaaDoorRegion
namespace Go.Proofs.YtmmmknmncdlopaaDoor
open Go.ChangeShapes Go.WideShapes Go.ChangeAt Go.RowKit

theorem region_ext {P : Program} {id : Nat} {Q : Exit → Act → World → Prop} {a : Act} {w : World} {l : List Oper} (hm : P.follows .mixedOrders = true) (hB : Region.lexB .any l.toArray = true)
    (h : (∀ (e : Later w) (b o : Nat), b < w.heap.size → e.w.cell? ⟨b, o, none⟩ = w.cell? ⟨b, o, none⟩) →
      wpQuiet P l.toArray (fun w' => ∃ e : Later w, w' = e.w) (fun a' => ∀ w', (∃ e : Later w, w' = e.w) → Q .normal a' w') l a) : (Code.region id l.toArray true).wp P Q a w :=
  region_later hm hB (h Later.cell)
theorem region_ext_tail {P : Program} {id : Nat} {Q : Exit → Act → World → Prop} {a : Act} {w : World} {l : List Oper} (n : Nat) (hm : P.follows .mixedOrders = true) (hB : Region.lexTailB .any l.toArray n = true)
    (h : (∀ (e : Later w) (b o : Nat), b < w.heap.size → e.w.cell? ⟨b, o, none⟩ = w.cell? ⟨b, o, none⟩) →
      wpQuiet P l.toArray (fun w' => ∃ e : Later w, w' = e.w) (fun a' => ∀ w', (∃ e : Later w, w' = e.w) → wpList P l.toArray Q (l.drop n) a' w') (l.take n) a) : (Code.region id l.toArray true).wp P Q a w :=
  region_later_tail n hm hB (h Later.cell)
theorem size_setCell (W : World) (a : Addr) (v : Value) : (W.setCell a v).heap.size = W.heap.size := by simp [World.setCell]
/-- A block that is known whole: its cells. -/
theorem cell_of_blk {W : World} {b : Nat} {c : Array Value} {t : TypeId} (h : W.heap[b]? = some (.cells c t (0, 0))) (o : Nat) : W.cell? ⟨b, o, none⟩ = c[o]? := by simp [World.cell?, h]
theorem free_of_blk {W : World} {b : Nat} {c : Array Value} {t : TypeId} (h : W.heap[b]? = some (.cells c t (0, 0))) (o : Nat) : W.frozen? ⟨b, o, none⟩ = false := by simp [World.frozen?, h]
theorem blk_setCell {W : World} {b : Nat} {c : Array Value} {t : TypeId} {f : Nat × Nat} (h : W.heap[b]? = some (.cells c t f)) (o : Nat) (v : Value) : (W.setCell ⟨b, o, none⟩ v).heap[b]? = some (.cells (c.setIfInBounds o v) t f) := by
  simp [World.setCell, Array.getElem?_modify, h]
theorem blk_setCell_ne {W : World} {b k : Nat} (hk : k ≠ b) (o : Nat) (v : Value) : (W.setCell ⟨b, o, none⟩ v).heap[k]? = W.heap[k]? := by
  simp [World.setCell, Array.getElem?_modify, Ne.symm hk]
theorem Ext.blk {a b : World} (h : Ext a b) {k : Nat} {o : Obj} (hk : a.heap[k]? = some o) : b.heap[k]? = some o := by
  rw [Below.block h k (Array.getElem?_eq_some_iff.1 hk).1]; exact hk
theorem blk_new (W : World) (o : Obj) : (W.alloc o).heap[W.heap.size]? = some o := heap_alloc_new W o
theorem blk_old {W : World} {k : Nat} {o : Obj} (h : W.heap[k]? = some o) (o' : Obj) : (W.alloc o').heap[k]? = some o := by
  rw [heap_alloc_old W o' (Array.getElem?_eq_some_iff.1 h).1]; exact h
/-- Three stores into a block of three cells. -/
theorem set3 {W : World} {b : Nat} {t : TypeId} {a0 a1 a2 : Value} (v0 v1 v2 : Value) (h : W.heap[b]? = some (.cells #[a0, a1, a2] t (0, 0))) :
    (((W.setCell ⟨b, 0, none⟩ v0).setCell ⟨b, 1, none⟩ v1).setCell ⟨b, 2, none⟩ v2).heap[b]? = some (.cells #[v0, v1, v2] t (0, 0)) ∧
    (∀ k, k ≠ b → (((W.setCell ⟨b, 0, none⟩ v0).setCell ⟨b, 1, none⟩ v1).setCell ⟨b, 2, none⟩ v2).heap[k]? = W.heap[k]?) ∧
    (((W.setCell ⟨b, 0, none⟩ v0).setCell ⟨b, 1, none⟩ v1).setCell ⟨b, 2, none⟩ v2).heap.size = W.heap.size :=
  ⟨by rw [blk_setCell (blk_setCell (blk_setCell h 0 v0) 1 v1) 2 v2]; rfl, fun k hk => by rw [blk_setCell_ne hk, blk_setCell_ne hk, blk_setCell_ne hk], by rw [size_setCell, size_setCell, size_setCell]⟩
/-- A block that was laid ahead of a call, read behind it. -/
theorem new3 {w1 w2 : World} {c : Array Value} {t : TypeId} (h : Ext (w1.alloc (.cells c t)) w2) : (∀ o, w2.cell? ⟨w1.heap.size, o, none⟩ = c[o]?) ∧ (∀ o, w2.frozen? ⟨w1.heap.size, o, none⟩ = false) ∧ w1.heap.size < w2.heap.size := by
  have hb := Ext.blk h (blk_new w1 (.cells c t))
  exact ⟨cell_of_blk hb, free_of_blk hb, (Array.getElem?_eq_some_iff.1 hb).1⟩

end Go.Proofs.YtmmmknmncdlopaaDoor
