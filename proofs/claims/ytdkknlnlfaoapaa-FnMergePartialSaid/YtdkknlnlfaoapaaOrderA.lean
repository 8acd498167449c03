/- The tiles of a set: what stands through the range. No condition. -/
import Derived.Test.YtdkknlnlfaoapaaSortO
import Derived.Test.YtdkknlnlfaoapaaMergeArm
import Derived.Test.YtdkknlnlfaoapaaOwns
import Derived.Deep.RegionLaw
import Derived.Deep.AppendLies
namespace Go.Proofs.Ytdkknlnlfaoapaa
open Go.ChangeShapes Go.WideShapes Go.ChangeAt Go.RowKit

theorem Owns.same {w w' : World} {base : Nat} {e : TypeId} {k : IntKind} {g n cap : Nat} {ts : List T3} (h : Owns w base e k (.slice (some ⟨g, 0, none⟩) n cap) ts) (hg : w'.heap[g]? = w.heap[g]?) : Owns w' base e k (.slice (some ⟨g, 0, none⟩) n cap) ts := by
  refine ⟨⟨h.1.1, ?_⟩, h.2⟩
  rcases h.1.2 with ⟨h0, _⟩ | ⟨g', cap', cur, hv, hb, hh, r⟩
  · exact absurd h0 h.2
  · cases hv
    exact .inr ⟨g, cap, cur, rfl, hb, hg.trans hh, r⟩
theorem Owns.row {w : World} {base : Nat} {e : TypeId} {k : IntKind} {g n cap : Nat} {ts : List T3} (h : Owns w base e k (.slice (some ⟨g, 0, none⟩) n cap) ts) : ∃ tail : List Value, w.heap[g]? = some (.cells (cells3 k ts ++ tail).toArray e (0, 0)) := by
  rcases h.1.2 with ⟨h0, _⟩ | ⟨g', cap', cur, hv, hb, hh, h1, h2, h3, h4⟩
  · exact absurd h0 h.2
  · cases hv
    refine ⟨cur.toList.drop (ts.length * 3), ?_⟩
    rw [hh, ← h4, List.take_append_drop]

/-- What stands through the range over the set. -/
structure SI (W wr : World) (mb : Nat) (l : Ents) (seen : Array Nat) (last : Nat) (ts : List T3) (g cap : Nat) : Prop where
  it : wr.heap[W.heap.size + 2]? = some (.mapIter (some mb) l.length seen last)
  bx : wr.heap[W.heap.size + 1]? = some (.cells #[.slice (some ⟨g, 0, none⟩) ts.length cap] 23 (0, 0))
  sm : SetAt .u32 wr mb l
  own : Owns wr W.heap.size 28 .i64 (.slice (some ⟨g, 0, none⟩) ts.length cap) ts
  far1 : g ≠ W.heap.size + 1
  far2 : g ≠ W.heap.size + 2
  la : l ≠ [] → 0 < last ∨ seen = #[]
  ext : Ext W wr
  mem : ∀ t, t ∈ ts ↔ ∃ i ∈ seen, l[i]? = some (t, true)
  nd : ts.Nodup
  mw : mb < W.heap.size

section
variable {W wr w3 : World} {mb : Nat} {l : Ents} {seen : Array Nat} {last : Nat} {ts : List T3} {g cap : Nat}
theorem SI.base (h : SI W wr mb l seen last ts g cap) : W.heap.size ≤ g := by
  obtain ⟨g', cap', hv, hb, _⟩ := h.own.form
  cases hv; exact hb
theorem SI.g_lt (h : SI W wr mb l seen last ts g cap) : g < wr.heap.size := by
  obtain ⟨t, ht⟩ := h.own.row; exact (Array.getElem?_eq_some_iff.1 ht).1
theorem SI.start (W : World) (mb : Nat) (l : Ents) (hm : SetAt .u32 W mb l) :
    SI W (((W.alloc (.cells #[] 28)).alloc (.cells #[.slice (some ⟨W.heap.size, 0, none⟩) 0 0] 23)).alloc (.mapIter (some mb) l.length #[] l.length)) mb l #[] l.length [] W.heap.size 0 := by
  have hmw := (Array.getElem?_eq_some_iff.1 hm).1
  have e1 : (W.alloc (.cells #[] 28)).heap.size = W.heap.size + 1 := by simp
  have e2 : ((W.alloc (.cells #[] 28)).alloc (.cells #[.slice (some ⟨W.heap.size, 0, none⟩) 0 0] 23)).heap.size = W.heap.size + 2 := by simp
  refine ⟨?_, ?_, blk_old (blk_old (blk_old hm _) _) _, ?_, by omega, by omega, fun _ => .inr rfl, (((Ext.refl W).alloc _).alloc _).alloc _, by simp, by simp, hmw⟩
  · have := blk_new ((W.alloc (.cells #[] 28)).alloc (.cells #[.slice (some ⟨W.heap.size, 0, none⟩) 0 0] 23)) (.mapIter (some mb) l.length #[] l.length)
    rwa [e2] at this
  · have := blk_new (W.alloc (.cells #[] 28)) (.cells #[.slice (some ⟨W.heap.size, 0, none⟩) 0 0] 23)
    rw [e1] at this
    exact blk_old this _
  · have := Owns.lit W 28 .i64 [] W.heap.size (Nat.le_refl _) (by simp [maxLen])
    refine Owns.same (by simpa [cells3] using this) ?_
    have hx : Ext (W.alloc (.cells #[] 28)) (((W.alloc (.cells #[] 28)).alloc (.cells #[.slice (some ⟨W.heap.size, 0, none⟩) 0 0] 23)).alloc (.mapIter (some mb) l.length #[] l.length)) := ((Ext.refl _).alloc _).alloc _
    simpa [cells3] using hx.block W.heap.size (by omega)

/-- The iterator has gone on by one. -/
theorem SI.step (h : SI W wr mb l seen last ts g cap) {i : Nat} {p : T3 × Bool}
    (h3 : l[i]? = some p ∧ i ∉ seen ∧ w3.heap[W.heap.size + 2]? = some (.mapIter (some mb) l.length (seen.push i) l.length) ∧ SetAt .u32 w3 mb l ∧ (∀ j, j ≠ W.heap.size + 2 → w3.heap[j]? = wr.heap[j]?) ∧ w3.heap.size = wr.heap.size ∧ ∀ B W', B ≤ W.heap.size + 2 → Below B W' wr → Below B W' w3) :
    w3.heap[W.heap.size + 1]? = some (.cells #[.slice (some ⟨g, 0, none⟩) ts.length cap] 23 (0, 0)) ∧ Owns w3 W.heap.size 28 .i64 (.slice (some ⟨g, 0, none⟩) ts.length cap) ts ∧ Ext W w3 :=
  ⟨(h3.2.2.2.2.1 _ (by omega)).trans h.bx, h.own.same (h3.2.2.2.2.1 _ h.far2), h3.2.2.2.2.2.2 _ W (by omega) h.ext⟩
theorem SI.skip (h : SI W wr mb l seen last ts g cap) {i : Nat} {t : T3} {w5 : World}
    (h3 : l[i]? = some (t, false) ∧ i ∉ seen ∧ w3.heap[W.heap.size + 2]? = some (.mapIter (some mb) l.length (seen.push i) l.length) ∧ SetAt .u32 w3 mb l ∧ (∀ j, j ≠ W.heap.size + 2 → w3.heap[j]? = wr.heap[j]?) ∧ w3.heap.size = wr.heap.size ∧ ∀ B W', B ≤ W.heap.size + 2 → Below B W' wr → Below B W' w3) (hx : Ext w3 w5) :
    SI W w5 mb l (seen.push i) l.length ts g cap := by
  obtain ⟨a, b, c⟩ := h.step h3
  refine ⟨Ext.blk hx h3.2.2.1, Ext.blk hx a, Ext.blk hx h3.2.2.2.1, b.same ?_, h.far1, h.far2, fun hl => .inl (List.length_pos_iff.2 hl), c.trans hx, fun u => ?_, h.nd, h.mw⟩
  · exact hx.block g (by have := h.g_lt; rw [h3.2.2.2.2.2.1]; exact this)
  · rw [h.mem u]
    constructor
    · rintro ⟨j, hj, e⟩; exact ⟨j, by simp [hj], e⟩
    · rintro ⟨j, hj, e⟩
      rcases Array.mem_push.1 hj with hj | rfl
      · exact ⟨j, hj, e⟩
      · rw [h3.1] at e; cases e
/-- One more tile has been taken in. -/
theorem SI.push (h : SI W wr mb l seen last ts g cap) (nk : (l.map (·.1)).Nodup) {i : Nat} {t : T3} {w5 w6 : World} {g' cap' : Nat}
    (h3 : l[i]? = some (t, true) ∧ i ∉ seen ∧ w3.heap[W.heap.size + 2]? = some (.mapIter (some mb) l.length (seen.push i) l.length) ∧ SetAt .u32 w3 mb l ∧ (∀ j, j ≠ W.heap.size + 2 → w3.heap[j]? = wr.heap[j]?) ∧ w3.heap.size = wr.heap.size ∧ ∀ B W', B ≤ W.heap.size + 2 → Below B W' wr → Below B W' w3) (hx : Ext w3 w5)
    (hown : w6.ownsRow W.heap.size 28 3 (.slice (some ⟨g', 0, none⟩) (ts.length + 1) cap') (ts.length + 1) (cells3 .i64 (ts ++ [t]))) (hgrow : w5.grownBy w6 (some g)) (hat : some g = some g' ∨ g' = w5.heap.size) :
    SI W (w6.setCell ⟨W.heap.size + 1, 0, none⟩ (.slice (some ⟨g', 0, none⟩) (ts.length + 1) cap')) mb l (seen.push i) l.length (ts ++ [t]) g' cap' := by
  obtain ⟨a, b, c⟩ := h.step h3
  have s3 := h3.2.2.2.2.2.1
  have sit := (Array.getElem?_eq_some_iff.1 h.it).1
  have s5 := hx.size
  have hb := h.base
  have hgl := h.g_lt
  have f1 := h.far1; have f2 := h.far2; have hmw := h.mw
  have hne1 : g' ≠ W.heap.size + 1 := by rcases hat with e | e
                                         · cases e; exact f1
                                         · omega
  have hne2 : g' ≠ W.heap.size + 2 := by rcases hat with e | e
                                         · cases e; exact f2
                                         · omega
  have k6 : ∀ j, j < w5.heap.size → j ≠ g → j ≠ W.heap.size + 1 → (w6.setCell ⟨W.heap.size + 1, 0, none⟩ (.slice (some ⟨g', 0, none⟩) (ts.length + 1) cap')).heap[j]? = w5.heap[j]? := fun j h1 h2 h4 => by
    rw [blk_setCell_ne h4]; exact hgrow.block j h1 (by simp; omega)
  have b6 : w6.heap[W.heap.size + 1]? = some (.cells #[.slice (some ⟨g, 0, none⟩) ts.length cap] 23 (0, 0)) := (hgrow.block _ (by omega) (by simp; omega)).trans (Ext.blk hx a)
  refine ⟨?_, ?_, ?_, ?_, hne1, hne2, fun hl => .inl (List.length_pos_iff.2 hl), ?_, fun u => ?_, ?_, h.mw⟩
  · rw [k6 _ (by omega) (Ne.symm f2) (by omega)]; exact Ext.blk hx h3.2.2.1
  · rw [blk_setCell b6]; simp
  · unfold SetAt; rw [k6 _ (by omega) (by omega) (by omega)]; exact Ext.blk hx h3.2.2.2.1
  · have : Owns w6 W.heap.size 28 .i64 (.slice (some ⟨g', 0, none⟩) (ts ++ [t]).length cap') (ts ++ [t]) := ⟨by simpa using hown, by simp⟩
    exact this.same (blk_setCell_ne hne1 _ _)
  · have c5 : Ext W w5 := c.trans hx
    have c6 : Ext W w6 := Below.grown c5 hgrow c5.size (fun k hk => by cases hk; exact hb)
    exact Below.setCell c6 (Nat.le_succ _) _
  · simp only [List.mem_append, List.mem_singleton, h.mem u]
    constructor
    · rintro (⟨j, hj, e⟩ | rfl)
      · exact ⟨j, by simp [hj], e⟩
      · exact ⟨i, by simp, h3.1⟩
    · rintro ⟨j, hj, e⟩
      rcases Array.mem_push.1 hj with hj | rfl
      · exact .inl ⟨j, hj, e⟩
      · rw [h3.1] at e; cases e; exact .inr rfl
  · rw [List.nodup_append]
    refine ⟨h.nd, by simp, fun x hx y hy => ?_⟩
    rw [List.mem_singleton.1 hy]
    rintro rfl
    obtain ⟨j, hj, e⟩ := (h.mem x).1 hx
    have k1 : (l.map (·.1))[j]? = some x := by simp [e]
    have k2 : (l.map (·.1))[i]? = some x := by simp [h3.1]
    obtain ⟨q1, e1⟩ := List.getElem?_eq_some_iff.1 k1
    obtain ⟨q2, e2⟩ := List.getElem?_eq_some_iff.1 k2
    rcases Nat.lt_trichotomy i j with h | h | h
    · exact List.pairwise_iff_getElem.1 nk i j q2 q1 h (e2.trans e1.symm)
    · subst h; exact h3.2.1 hj
    · exact List.pairwise_iff_getElem.1 nk j i q1 q2 h (e1.trans e2.symm)
end

/-- All tiles that a bounded map can hold. -/
def box3 : List T3 := (List.range 32).flatMap fun (a : Nat) => (List.range 32).flatMap fun (b : Nat) => (List.range 32).map fun (c : Nat) => ((a : Int), (b : Int), (c : Int))
theorem box3_length : box3.length = 32768 := by
  have e : ∀ (n m : Nat) (f : Nat → List T3), (∀ a, (f a).length = m) → ((List.range n).flatMap f).length = n * m := fun n m f h => by
    rw [List.length_flatMap, show List.map (fun a => (f a).length) (List.range n) = List.replicate n m from by
      rw [List.map_congr_left (fun a _ => h a), List.map_const', List.length_range], List.sum_replicate_nat]
  unfold box3
  rw [e 32 1024 _ fun a => by rw [e 32 32 _ fun b => by simp]]
theorem mem_box3 {t : T3} {k : Int} (hk0 : 0 ≤ k) (hk : k ≤ 31) (h : lev k t) : t ∈ box3 := by
  obtain ⟨x, y, z⟩ := t
  obtain ⟨h1, h2, h3, h4, h5⟩ := h
  dsimp only at h1 h2 h3 h4 h5
  simp only [box3, List.mem_flatMap, List.mem_map, List.mem_range, Prod.mk.injEq]
  exact ⟨x.toNat, by omega, y.toNat, by omega, z.toNat, by omega, by omega, by omega, by omega⟩
theorem MapOf.length {l : Ents} {f : T3 → Bool} (h : MapOf l f) : l.length ≤ 32768 := by
  have := length_le_of_sub (l.map (·.1)) box3 h.1 fun t ht => by
    obtain ⟨k, h1, h2, h3⟩ := h.2.2 t ht
    exact mem_box3 h1 h2 h3
  rw [box3_length] at this
  simpa using this

end Go.Proofs.Ytdkknlnlfaoapaa
