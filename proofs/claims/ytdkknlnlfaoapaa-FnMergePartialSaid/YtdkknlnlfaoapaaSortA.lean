/- What a sort of the tiles may do: the row holds the same tiles in some order. Contracts that ask nothing of the order. No condition. -/
import Derived.Test.YtdkknlnlfaoapaaOwns
import Derived.Test.YtdkknlnlfaoapaaRegionE
import Derived.Deep.LoopGhost
namespace Go.Proofs.Ytdkknlnlfaoapaa
open Go.ChangeShapes Go.WideShapes Go.ChangeAt Go.RowKit

/-- Nothing that was there has turned but block g. -/
structure Keep (g : Nat) (W w : World) : Prop where
  os : W.os = w.os
  tape : W.tape = w.tape
  output : W.output = w.output
  size : W.heap.size ≤ w.heap.size
  block : ∀ k, k < W.heap.size → k ≠ g → w.heap[k]? = W.heap[k]?
theorem Keep.refl (g : Nat) (W : World) : Keep g W W := ⟨rfl, rfl, rfl, Nat.le_refl _, fun _ _ _ => rfl⟩
theorem Keep.trans {g : Nat} {a b c : World} (h : Keep g a b) (k : Keep g b c) : Keep g a c :=
  ⟨h.os.trans k.os, h.tape.trans k.tape, h.output.trans k.output, Nat.le_trans h.size k.size, fun j hj hg => (k.block j (Nat.lt_of_lt_of_le hj h.size) hg).trans (h.block j hj hg)⟩

/-- The row and the box in which the slice lies. -/
structure Sl (g bx : Nat) (n cap : Nat) (ts : List T3) (tail : List Value) (W : World) : Prop where
  row : ∃ d : List T3, d.Perm ts ∧ W.heap[g]? = some (.cells (cells3 .i64 d ++ tail).toArray 28 (0, 0))
  box : W.heap[bx]? = some (.cells #[.slice (some ⟨g, 0, none⟩) n cap] 23 (0, 0))
  len : ts.length = n
  ncap : n ≤ cap
  max : cap ≤ maxLen
  ne : bx ≠ g
section
variable {g bx n cap : Nat} {ts : List T3} {tail : List Value}
theorem Sl.ext {W w : World} (h : Sl g bx n cap ts tail W) (hx : Ext W w) : Sl g bx n cap ts tail w := by
  obtain ⟨d, h1, h2⟩ := h.row
  exact ⟨⟨d, h1, Ext.blk hx h2⟩, Ext.blk hx h.box, h.len, h.ncap, h.max, h.ne⟩
theorem Keep.ext {W w w2 : World} (h : Keep g W w) (hx : Ext w w2) : Keep g W w2 :=
  h.trans ⟨hx.os.symm, hx.tape.symm, hx.output.symm, hx.size, fun k hk _ => hx.block k hk⟩

/-- A yes or a no. -/
def SaysB (e : Ending) : Prop := ∃ b : Bool, e = .returned (.bool b)
set_option maxRecDepth 8000 in
set_option maxHeartbeats 1600000 in
theorem less_any (i j : Nat) (W : World) (h : Sl g bx n cap ts tail W) (hi : i < n) (hj : j < n) :
    Calls Try.prog 22 #[.int .i64 i, .int .i64 j, .pointer (some ⟨bx, 0, none⟩)] W fun e w' => SaysB e ∧ Ext W w' := by
  obtain ⟨d, hp, hrow⟩ := h.row
  have hl : d.length = n := hp.length_eq.trans h.len
  have hc := h.ncap; have hm := h.max
  unfold maxLen at hm
  have B := cell_of_blk h.box
  obtain ⟨⟨a1, b1, c1⟩, h1⟩ : ∃ t, d[i]? = some t := ⟨d[i], List.getElem?_eq_getElem (by omega)⟩
  obtain ⟨⟨a2, b2, c2⟩, h2⟩ : ∃ t, d[j]? = some t := ⟨d[j], List.getElem?_eq_getElem (by omega)⟩
  have get : ∀ (i : Nat) (t : T3), d[i]? = some t → W.cell? ⟨g, i * 3, none⟩ = some (.int .i64 t.1) ∧ W.cell? ⟨g, i * 3 + 1, none⟩ = some (.int .i64 t.2.1) ∧ W.cell? ⟨g, i * 3 + 2, none⟩ = some (.int .i64 t.2.2) := by
    intro i t ht
    obtain ⟨x, y, z⟩ := cells3_get .i64 d i t ht
    have hlt := (List.getElem?_eq_some_iff.1 ht).1
    have hL := cells3_length .i64 d
    have R := cell_of_blk hrow
    refine ⟨?_, ?_, ?_⟩
    · rw [R, List.getElem?_toArray, List.getElem?_append_left (by omega)]; exact x
    · rw [R, List.getElem?_toArray, List.getElem?_append_left (by omega)]; exact y
    · rw [R, List.getElem?_toArray, List.getElem?_append_left (by omega)]; exact z
  obtain ⟨p1, p2, p3⟩ := get i _ h1
  obtain ⟨q1, q2, q3⟩ := get j _ h2
  dsimp only at p1 p2 p3 q1 q2 q3
  have s1 : bx < W.heap.size := (Array.getElem?_eq_some_iff.1 h.box).1
  have s2 : g < W.heap.size := (Array.getElem?_eq_some_iff.1 hrow).1
  have n1 : bx ≠ W.heap.size := by omega
  have n2 : g ≠ W.heap.size := by omega
  have n3 : bx ≠ W.heap.size + 1 := by omega
  have n4 : g ≠ W.heap.size + 1 := by omega
  have s3 : bx < W.heap.size + 1 := by omega
  have s4 : g < W.heap.size + 1 := by omega
  clear h get h1 h2 hrow hp
  go_enter Try.func22, Try.ntmps22
  go_wp2
  go_region
  go_wp2
  all_goals
    go_ret
    refine ⟨⟨_, rfl⟩, ?_⟩
    repeat (first | exact Ext.refl _ | with_reducible apply Ext.drew | with_reducible apply Ext.alloc)
end

end Go.Proofs.Ytdkknlnlfaoapaa
