/- Ranges over maps from tiles to bools; the keys of the library's own tiles. Conditions: the map's block and the iterator's. -/
import Derived.Test.YtdkknlnlfaoapaaSets
import Derived.Test.YtdkknlnlfaoapaaRegionE
import Derived.Maps.RangeRun
import Derived.Carry
namespace Go.Proofs.Ytdkknlnlfaoapaa
open Go.ChangeShapes Go.WideShapes Go.ChangeAt Go.RowKit
open Go.ChangeMaps (setBlock)

theorem ck_int (n : Nat) (b : Bool) (k : IntKind) (x : Int) (t : TypeId) (w : World) (ht : Try.prog.underlying t = some (.int k)) : (Instr.checkKey b (n + 1) t (.int k x)).run Try.prog w = .ok () w := by
  simp [Instr.checkKey, run_underlying ht]
theorem ck_mtile (n : Nat) (b : Bool) (x y z : Int) (w : World) : (Instr.checkKey b (n + 2) 45 (.agg #[.int .u32 x, .int .u32 y, .int .u32 z])).run Try.prog w = .ok () w := by
  rw [show n + 2 = (n + 1) + 1 from rfl, Instr.checkKey]
  simp only [Sem.run_bind, run_underlying Try.underlying45, Result.andThen_ok]
  simp [go_sem, ck_int _ b .u32 _ 42 _ Try.underlying42, ck_int _ b .u32 _ 43 _ Try.underlying43]
theorem key_mtile : TileKey Try.prog 45 .u32 := ⟨eq_mtile, fun b x y z w => ck_mtile 9998 b x y z w, ⟨_, Try.underlying45⟩⟩
theorem zero_bool (w : World) : (zeroValue 4).run Try.prog w = .ok (.bool false) w := by kernel_rfl

/-- A map's block set anew. -/
def putSet (w : World) (r : Nat) (k : IntKind) (l : Ents) : World := { w with heap := w.heap.setIfInBounds r (.map (ents k 0 l).toArray l.length) }
theorem below_putSet {B : Nat} {a b : World} (h : Below B a b) {r : Nat} (hr : B ≤ r) (k : IntKind) (l : Ents) : Below B a (putSet b r k l) :=
  Below.trans h ⟨rfl, rfl, rfl, by simp [Proofs.Ytdkknlnlfaoapaa.putSet], fun i hi => by simp only [Proofs.Ytdkknlnlfaoapaa.putSet]; rw [Array.getElem?_setIfInBounds_ne (by omega)]⟩
theorem Ext.putSet {a b : World} (h : Ext a b) {r : Nat} (hr : a.heap.size ≤ r) (k : IntKind) (l : Ents) : Ext a (putSet b r k l) := below_putSet h hr k l
theorem setAt_put {k : IntKind} {w : World} {r : Nat} {l : Ents} (h : SetAt k w r l) (m : Ents) : SetAt k (putSet w r k m) r m := by
  have := (Array.getElem?_eq_some_iff.1 h).1
  simp [SetAt, putSet, this]
theorem put_other {k : IntKind} (w : World) {r j : Nat} (h : j ≠ r) (m : Ents) : (putSet w r k m).heap[j]? = w.heap[j]? := by
  simp only [putSet]; rw [Array.getElem?_setIfInBounds_ne (by omega)]
theorem put_size {k : IntKind} (w : World) (r : Nat) (m : Ents) : (putSet w r k m).heap.size = w.heap.size := by simp [putSet]
theorem Ext.setAt {a b : World} (h : Ext a b) {k : IntKind} {r : Nat} {l : Ents} (hs : SetAt k a r l) : SetAt k b r l := Ext.blk h hs

theorem ents_born (k : IntKind) : ∀ (l : Ents) (n : Nat), (ents k n l).map (·.born) = List.range' n l.length
  | [], _ => rfl
  | (t, b) :: l, n => by simp [ents, ents_born k l (n + 1), List.range'_succ]
theorem ents_mem (k : IntKind) (l : Ents) (n : Nat) (e : MapEntry) (h : e ∈ ents k n l) : ∃ i t b, l[i]? = some (t, b) ∧ e = { key := tkey k t, val := .bool b, born := n + i } := by
  obtain ⟨i, hi, rfl⟩ := List.mem_iff_getElem.1 h
  rw [ents_length] at hi
  refine ⟨i, l[i].1, l[i].2, by rw [List.getElem?_eq_getElem hi], ?_⟩
  have := ents_get k l n i l[i].1 l[i].2 (by rw [List.getElem?_eq_getElem hi])
  exact (List.getElem?_eq_some_iff.1 this).2

theorem setBlock_other (w : World) {r j : Nat} (h : j ≠ r) (o : Obj) : (setBlock w r o).heap[j]? = w.heap[j]? := by
  simp only [setBlock]; rw [Array.getElem?_setIfInBounds_ne (by omega)]
theorem setBlock_size (w : World) (r : Nat) (o : Obj) : (setBlock w r o).heap.size = w.heap.size := by simp [setBlock]
theorem setBlock_at (w : World) {r : Nat} (h : r < w.heap.size) (o : Obj) : (setBlock w r o).heap[r]? = some o := by simp [setBlock, h]
theorem below_setBlock {B : Nat} {a b : World} (h : Below B a b) {r : Nat} (hr : B ≤ r) (o : Obj) : Below B a (setBlock b r o) :=
  Below.trans h ⟨rfl, rfl, rfl, by simp [setBlock], fun i hi => setBlock_other b (by omega) o⟩

theorem run_choose {P : Program} (w : World) (n : Nat) (h : 0 < n) : ∃ (j : Nat) (w1 : World), j < n ∧ (w1 = w ∨ w1 = w.drew) ∧ (choose (Question.mapNext n)).run P w = .ok j w1 := by
  by_cases hf : n ≤ 1
  · exact ⟨0, w, by omega, Or.inl rfl, by simp [choose, Sem.run, Question.forced, hf]⟩
  · exact ⟨_, w.drew, Nat.mod_lt _ (by omega), Or.inr rfl, by
      simp only [choose, Sem.run, Question.forced, decide_eq_true_eq, hf, if_false, Question.cut]
      rfl⟩

/-- One step of a range over a map, entries laid in the meantime or not. -/
theorem run_next_set {P : Program} {k : IntKind} (w : World) (ty : TypeId) (r b since last : Nat) (seen : Array Nat) (l : Ents)
    (hr : w.heap[r]? = some (.mapIter (some b) since seen last)) (hb : SetAt k w b l) (hl : l ≠ [] → 0 < last ∨ seen = #[]) :
    (∃ w1, (w1 = w ∨ w1 = w.drew) ∧ (∀ i, i < since → i < l.length → i ∈ seen) ∧ (Instr.next (.pointer (some ⟨r, 0, none⟩)) false ty).run P w = .ok (.tuple #[.bool false]) w1) ∨
    ∃ i t v w1, l[i]? = some (t, v) ∧ i ∉ seen ∧ (w1 = w ∨ w1 = w.drew) ∧ (Instr.next (.pointer (some ⟨r, 0, none⟩)) false ty).run P w = .ok (.tuple #[.bool true, tkey k t, .bool v]) (setBlock w1 r (.mapIter (some b) since (seen.push i) l.length)) := by
  have htest : (!seen.isEmpty && !(ents k 0 l).toArray.isEmpty && (ents k 0 l).toArray.all (·.born ≥ last)) = false := by
    cases l with
    | nil => simp [ents]
    | cons p l =>
      obtain ⟨t, v⟩ := p
      rcases hl (by simp) with h | h
      · simp [ents]; intro _ h0; omega
      · simp [h]
  unfold SetAt at hb
  simp only [Instr.next, getObj, Sem.run_bind, Sem.run, hr, hb, Result.andThen, htest, Bool.false_eq_true, if_false]
  obtain ⟨es, hes⟩ : ∃ es, (ents k 0 l).toArray = es := ⟨_, rfl⟩
  rw [hes]
  obtain ⟨L, hL⟩ : ∃ L, Array.filter (fun e => !seen.contains e.born) es = L := ⟨_, rfl⟩
  rw [hL]
  have hmem : ∀ e ∈ L, ∃ i t v, l[i]? = some (t, v) ∧ i ∉ seen ∧ e = { key := tkey k t, val := .bool v, born := i } := by
    intro e he
    rw [← hL, Array.mem_filter] at he
    obtain ⟨i, t, v, h1, rfl⟩ := ents_mem k l 0 e (by rw [← hes] at he; simpa using he.1)
    refine ⟨i, t, v, h1, ?_, by simp⟩
    simpa using he.2
  have hin : ∀ i, i < since → i < l.length → i ∉ seen → ∃ e ∈ L, e.born < since := by
    intro i h1 h2 h3
    refine ⟨{ key := tkey k l[i].1, val := .bool l[i].2, born := i }, ?_, h1⟩
    rw [← hL, Array.mem_filter, ← hes]
    have := ents_get k l 0 i l[i].1 l[i].2 (by rw [List.getElem?_eq_getElem h2])
    rw [Nat.zero_add] at this
    exact ⟨by simpa using List.mem_of_getElem? this, by simpa using h3⟩
  obtain ⟨old, hold⟩ : ∃ old, L.filter (fun x => decide (x.born < since)) = old := ⟨_, rfl⟩
  obtain ⟨new, hnew⟩ : ∃ new, L.filter (fun x => decide (x.born ≥ since)) = new := ⟨_, rfl⟩
  rw [hold, hnew]
  obtain ⟨C, hC⟩ : ∃ C : Array (Option MapEntry), (if old.isEmpty = true then #[none] else #[]) ++ (old ++ new).map some = C := ⟨_, rfl⟩
  rw [hC]
  have hpos : 0 < C.size := by
    rw [← hC]
    by_cases h : old.isEmpty = true
    · simp [h]; omega
    · simp [Array.isEmpty] at h
      have : 0 < old.size := Nat.pos_of_ne_zero (by simpa [Array.size_eq_zero_iff] using h)
      simp; omega
  obtain ⟨j, w1, hj, hw1, hrun⟩ := run_choose (P := P) w C.size hpos
  have hr1 : w1.heap[r]? = some (.mapIter (some b) since seen last) := by rcases hw1 with rfl | rfl <;> exact hr
  simp only [hrun, Array.getElem?_eq_getElem hj]
  have hc : C[j] ∈ (if old.isEmpty = true then #[none] else #[]) ++ (old ++ new).map some := by rw [hC]; exact Array.getElem_mem hj
  rcases hx : C[j] with _ | e
  · left
    refine ⟨w1, hw1, ?_, rfl⟩
    rw [hx] at hc
    have he : old.isEmpty = true := by
      by_cases h : old.isEmpty = true
      · exact h
      · simp [h] at hc
    intro i h1 h2
    apply Classical.byContradiction
    intro h3
    obtain ⟨e, he1, he2⟩ := hin i h1 h2 h3
    have : e ∈ old := by rw [← hold, Array.mem_filter]; exact ⟨he1, by simpa using he2⟩
    simp at he
    rw [he] at this
    simp at this
  · right
    rw [hx] at hc
    have he : e ∈ L := by
      have h0 : e ∈ old ∨ e ∈ new := by
        by_cases h : old.isEmpty = true
        · simpa [h] using hc
        · simpa [h] using hc
      rcases h0 with h | h
      · rw [← hold, Array.mem_filter] at h; exact h.1
      · rw [← hnew, Array.mem_filter] at h; exact h.1
    obtain ⟨i, t, v, h1, h2, rfl⟩ := hmem e he
    refine ⟨i, t, v, w1, h1, h2, hw1, ?_⟩
    simp only [Sem.run_bind, run_setObj_at hr1, Result.andThen]
    rfl

theorem ents_nodup (k : IntKind) (l : Ents) : ((ents k 0 l).map (·.born)).Nodup := by
  rw [ents_born]; exact List.nodup_range'

/-- The step as an arm of the walk. -/
theorem wpList_next_set {P : Program} {w : World} {ops : Array Oper} {rest : List Oper} {o : Oper} {a : Act} {Q : Exit → Act → World → Prop} {k : IntKind} (hg : o.guard = none) (it : Operand) (hop : o.op = Op.next it false)
    (r b since last : Nat) (seen : Array Nat) (l : Ents) (hit : a.eval it = .pointer (some ⟨r, 0, none⟩)) (hr : w.heap[r]? = some (.mapIter (some b) since seen last)) (hb : SetAt k w b l) (hrb : r ≠ b) (hl : l ≠ [] → 0 < last ∨ seen = #[])
    (hDone : ∀ w1, RowKit.Hid (w1.heap = w.heap ∧ (∀ B W, Below B W w → Below B W w1) ∧ ∀ i, i < since → i < l.length → i ∈ seen) → wpList P ops Q rest (a.put o.dst (.tuple #[.bool false])) w1)
    (hMore : ∀ i x y z v w2, RowKit.Hid (l[i]? = some ((x, y, z), v) ∧ i ∉ seen ∧ w2.heap[r]? = some (.mapIter (some b) since (seen.push i) l.length) ∧ SetAt k w2 b l ∧ (∀ j, j ≠ r → w2.heap[j]? = w.heap[j]?) ∧ w2.heap.size = w.heap.size ∧ ∀ B W, B ≤ r → Below B W w → Below B W w2) →
      (Instr.entry (.pointer (some ⟨r, 0, none⟩))).run P w2 = .ok (.tuple #[.agg #[.int k x, .int k y, .int k z], .bool v]) w2 →
      wpList P ops Q rest (a.put o.dst (.tuple #[.bool true, .agg #[.int k x, .int k y, .int k z], .bool v])) w2) :
    wpList P ops Q (o :: rest) a w := by
  refine wpList_plain hg fun K' hK' => ?_
  unfold Oper.wp
  rcases run_next_set (P := P) w o.type r b since last seen l hr hb hl with ⟨w1, hw1, hs, hrun⟩ | ⟨i, t, v, w1, hi, hs, hw1, hrun⟩
  · simp [execOp, hop, hit, hrun, Result.andThen]
    refine hK' _ _ (hDone w1 (Lib.hid ⟨?_, ?_, hs⟩))
    · rcases hw1 with rfl | rfl <;> rfl
    · intro B W h
      rcases hw1 with rfl | rfl
      · exact h
      · exact h.drew
  · obtain ⟨x, y, z⟩ := t
    simp [execOp, hop, hit, hrun, Result.andThen]
    have hh : w1.heap = w.heap := by rcases hw1 with rfl | rfl <;> rfl
    have hr1 : r < w1.heap.size := by rw [hh]; exact (Array.getElem?_eq_some_iff.1 hr).1
    have hat := setBlock_at w1 hr1 (.mapIter (some b) since (seen.push i) l.length)
    have hb2 : SetAt k (setBlock w1 r (.mapIter (some b) since (seen.push i) l.length)) b l := by
      unfold SetAt; rw [setBlock_other w1 (Ne.symm hrb), hh]; exact hb
    have hbel : ∀ B W, Below B W w → Below B W w1 := by
      intro B W h
      rcases hw1 with rfl | rfl
      · exact h
      · exact h.drew
    have hget := ents_get k l 0 i (x, y, z) v hi
    rw [Nat.zero_add] at hget
    refine hK' _ _ (hMore i x y z v _ (Lib.hid ⟨hi, hs, hat, hb2, fun j hj => by rw [setBlock_other w1 hj, hh], by rw [setBlock_size, hh], fun B W hB h => below_setBlock (hbel B W h) hB _⟩) ?_)
    exact run_entry_at _ r b since seen (ents k 0 l).toArray l.length { key := tkey k (x, y, z), val := .bool v, born := i } hat hb2 (by simpa using List.mem_of_getElem? hget) (by simpa using ents_nodup k l)

theorem run_range_set {P : Program} {k : IntKind} {M K E : TypeId} (hM : P.underlying M = some (.map K E)) (w : World) (b : Nat) (l : Ents) (h : SetAt k w b l) :
    (Instr.range M (.map (some b))).run P w = .ok (.pointer (some ⟨w.heap.size, 0, none⟩)) (w.alloc (.mapIter (some b) l.length #[] l.length)) := by
  simp [Instr.range, Sem.run_bind, run_underlying hM, MapKept.run_getObj_map h, Result.andThen, newObj, Sem.run, go_sem]

end Go.Proofs.Ytdkknlnlfaoapaa
