/- A sort's exchange of two tiles. No condition. -/
import Derived.Test.YtdkknlnlfaoapaaSortA
import Derived.Lib.ReflectliteSwap
namespace Go.Proofs.Ytdkknlnlfaoapaa
open Go.ChangeShapes Go.WideShapes Go.ChangeAt Go.RowKit

theorem cells3_set (k : IntKind) (t : T3) (tail : List Value) : ∀ (d : List T3) (i : Nat), i < d.length →
    (((cells3 k d ++ tail).set (i * 3) (.int k t.1)).set (i * 3 + 1) (.int k t.2.1)).set (i * 3 + 2) (.int k t.2.2) = cells3 k (d.set i t) ++ tail
  | [], i, h => by simp at h
  | u :: d, 0, _ => by simp [cells3]
  | u :: d, i + 1, h => by
    have ih := cells3_set k t tail d i (by simpa using h)
    rw [show (i + 1) * 3 = i * 3 + 1 + 1 + 1 by omega]
    simp only [cells3, List.cons_append, List.set_cons_succ, ih]
theorem swap_perm (d : List T3) (i j : Nat) (hi : i < d.length) (hj : j < d.length) : ((d.set i d[j]).set j d[i]).Perm d := by
  have h := Array.swap_perm (xs := d.toArray) (i := i) (j := j) (by simpa using hi) (by simpa using hj)
  have e : (d.toArray.swap i j (by simpa using hi) (by simpa using hj)).toList = (d.set i d[j]).set j d[i] := by simp [Array.swap]
  rw [← e]
  simpa [Array.perm_iff_toList_perm] using h

noncomputable def elT : TypeInfo := (Try.prog.info? 28).get (by kernel_rfl)
theorem elT_info : Try.prog.info? 28 = some elT := by kernel_rfl
theorem elT_size : elT.size = 3 := by kernel_rfl

theorem setCells3_blk {W : World} {b : Nat} {c : List Value} {t : TypeId} (h : W.heap[b]? = some (.cells c.toArray t (0, 0))) (o : Nat) (x y z : Value) :
    (W.setCells b o [x, y, z]).heap[b]? = some (.cells (((c.set o x).set (o + 1) y).set (o + 2) z).toArray t (0, 0)) ∧ (∀ k, k ≠ b → (W.setCells b o [x, y, z]).heap[k]? = W.heap[k]?) ∧ (W.setCells b o [x, y, z]).heap.size = W.heap.size ∧
    (W.setCells b o [x, y, z]).os = W.os ∧ (W.setCells b o [x, y, z]).tape = W.tape ∧ (W.setCells b o [x, y, z]).output = W.output := by
  refine ⟨?_, fun k hk => ?_, ?_, rfl, rfl, rfl⟩
  · simp only [World.setCells]
    rw [blk_setCell (blk_setCell (blk_setCell h o x) (o + 1) y) (o + 1 + 1) z]
    simp
  · simp only [World.setCells]; rw [blk_setCell_ne hk, blk_setCell_ne hk, blk_setCell_ne hk]
  · simp only [World.setCells]; rw [size_setCell, size_setCell, size_setCell]

section
variable {g bx n cap : Nat} {ts : List T3} {tail : List Value}
theorem swap_any (i j : Nat) (W : World) (h : Sl g bx n cap ts tail W) (hi : i < n) (hj : j < n) :
    ∃ w', (callFunc 40 #[.int .i64 i, .int .i64 j, .slice (some ⟨g, 0, none⟩) n cap, typeHandle Try.prog 28]).run Try.prog W = .ok (.value (.tuple #[])) w' ∧ Sl g bx n cap ts tail w' ∧ Keep g W w' := by
  obtain ⟨d, hp, hrow⟩ := h.row
  have hl : d.length = n := hp.length_eq.trans h.len
  have R := cell_of_blk hrow
  have F := free_of_blk hrow
  have hL := cells3_length .i64 d
  have get : ∀ (i : Nat) (hi : i < d.length) (k : Nat) (v : Value), [Value.int .i64 d[i].1, .int .i64 d[i].2.1, .int .i64 d[i].2.2][k]? = some v → W.cell? ⟨g, 0 + i * elT.size + k, none⟩ = some v := by
    intro i hi k v hv
    obtain ⟨x, y, z⟩ := cells3_get .i64 d i d[i] (List.getElem?_eq_getElem hi)
    rw [elT_size, R, List.getElem?_toArray, Nat.zero_add]
    match k, hv with
    | 0, hv => rw [List.getElem?_append_left (by omega)]; exact x.trans hv
    | 1, hv => rw [List.getElem?_append_left (by omega)]; exact y.trans hv
    | 2, hv => rw [List.getElem?_append_left (by omega)]; exact z.trans hv
    | k + 3, hv => simp at hv
  have hrun := Lib.run_swap_cells (P := Try.prog) false 28 elT elT_info (fun _ => by kernel_rfl) g 0 n cap i j hi hj
    [.int .i64 d[i].1, .int .i64 d[i].2.1, .int .i64 d[i].2.2] [.int .i64 d[j].1, .int .i64 d[j].2.1, .int .i64 d[j].2.2] (by rw [elT_size]; rfl) (by rw [elT_size]; rfl)
    (by simp [Value.oneCell']) (by simp [Value.oneCell']) W (get i (by omega)) (get j (by omega)) (fun k _ => F _) (fun k _ => F _)
  rw [elT_size, Nat.zero_add, Nat.zero_add] at hrun
  have hx := run_callFunc_extern Try.func40 (by kernel_rfl) (by kernel_rfl) (by kernel_rfl) (e := Extern.ReflectliteSwapper.swap false) (by kernel_rfl) #[.int .i64 i, .int .i64 j, .slice (some ⟨g, 0, none⟩) n cap, typeHandle Try.prog 28] W
  obtain ⟨a1, a2, a3, a4, a5, a6⟩ := setCells3_blk hrow (i * 3) (.int .i64 d[j].1) (.int .i64 d[j].2.1) (.int .i64 d[j].2.2)
  rw [cells3_set .i64 d[j] tail d i (by omega)] at a1
  obtain ⟨b1, b2, b3, b4, b5, b6⟩ := setCells3_blk a1 (j * 3) (.int .i64 d[i].1) (.int .i64 d[i].2.1) (.int .i64 d[i].2.2)
  rw [cells3_set .i64 d[i] tail (d.set i d[j]) j (by simp; omega)] at b1
  refine ⟨_, by rw [hx, hrun]; rfl, ⟨⟨_, (swap_perm d i j (by omega) (by omega)).trans hp, b1⟩, ?_, h.len, h.ncap, h.max, h.ne⟩, ⟨(b4.trans a4).symm, (b5.trans a5).symm, (b6.trans a6).symm, by rw [b3, a3]; exact Nat.le_refl _, fun k _ hk => (b2 k hk).trans (a2 k hk)⟩⟩
  rw [b2 bx h.ne, a2 bx h.ne]; exact h.box
end

end Go.Proofs.Ytdkknlnlfaoapaa
