/- What stands through a sort's step: the row, the box of the two function values. No condition. -/
import Derived.Test.YtdkknlnlfaoapaaSortH
namespace Go.Proofs.Ytdkknlnlfaoapaa
open Go.ChangeShapes Go.WideShapes Go.ChangeAt Go.RowKit

/-- The row is well, and the box of this call's 'data' stands. -/
structure SB (g bx n cap : Nat) (ts : List T3) (tail : List Value) (W w : World) : Prop where
  srt : Srt g bx n cap ts tail W w
  box : w.heap[W.heap.size]? = some (.cells #[(.func (.func 22) #[] #[.pointer (some ⟨bx, 0, none⟩)]), (.func (.func 40) #[] #[.slice (some ⟨g, 0, none⟩) n cap, typeHandle Try.prog 28])] 69 (0, 0))
  gW : g < W.heap.size
section
variable {g bx n cap : Nat} {ts : List T3} {tail : List Value}
theorem Sl.g_lt {W : World} (h : Sl g bx n cap ts tail W) : g < W.heap.size := by
  obtain ⟨d, _, hd⟩ := h.row; exact (Array.getElem?_eq_some_iff.1 hd).1
theorem SB.start {W : World} (h : Sl g bx n cap ts tail W) : SB g bx n cap ts tail W (W.alloc (.cells #[(.func (.func 22) #[] #[.pointer (some ⟨bx, 0, none⟩)]), (.func (.func 40) #[] #[.slice (some ⟨g, 0, none⟩) n cap, typeHandle Try.prog 28])] 69)) :=
  ⟨⟨h.ext ((Ext.refl _).alloc _), (Keep.refl g W).ext ((Ext.refl _).alloc _)⟩, blk_new W _, h.g_lt⟩
theorem SB.ext {W w w2 : World} (h : SB g bx n cap ts tail W w) (hx : Ext w w2) : SB g bx n cap ts tail W w2 := ⟨h.srt.ext hx, Ext.blk hx h.box, h.gW⟩
theorem SB.swap {W w w2 : World} (h : SB g bx n cap ts tail W w) (hs : Sl g bx n cap ts tail w2 ∧ Keep g w w2) : SB g bx n cap ts tail W w2 :=
  ⟨h.srt.swap hs, (hs.2.block _ (Array.getElem?_eq_some_iff.1 h.box).1 (Nat.ne_of_gt h.gW)).trans h.box, h.gW⟩
theorem SB.trans {W w w2 : World} (h : SB g bx n cap ts tail W w) (k : Srt g bx n cap ts tail w w2) : SB g bx n cap ts tail W w2 := h.swap ⟨k.sl, k.keep⟩
theorem SB.cell {W w : World} (h : SB g bx n cap ts tail W w) : ∀ o, w.cell? ⟨W.heap.size, o, none⟩ = (#[(.func (.func 22) #[] #[.pointer (some ⟨bx, 0, none⟩)]), (.func (.func 40) #[] #[.slice (some ⟨g, 0, none⟩) n cap, typeHandle Try.prog 28])] : Array Value)[o]? := cell_of_blk h.box
end

end Go.Proofs.Ytdkknlnlfaoapaa
