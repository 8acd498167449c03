/- Slices of tiles that a call makes itself: how they grow by append, and how they are read. Conditions: the sizes. -/
import Derived.Test.YtdkknlnlfaoapaaLists
import Derived.Test.YtdkknlnlfaoapaaTileA
import Derived.OwnWalk
namespace Go.Proofs.Ytdkknlnlfaoapaa
open Go.ChangeShapes Go.WideShapes Go.ChangeAt Go.RowKit

/-- A list of tiles as cells, one behind the other. -/
def cells3 (k : IntKind) : List T3 → List Value
  | [] => []
  | t :: ts => .int k t.1 :: .int k t.2.1 :: .int k t.2.2 :: cells3 k ts
theorem cells3_append (k : IntKind) (a b : List T3) : cells3 k (a ++ b) = cells3 k a ++ cells3 k b := by
  induction a with
  | nil => rfl
  | cons t ts ih => simp [cells3, ih]
theorem cells3_length (k : IntKind) (a : List T3) : (cells3 k a).length = a.length * 3 := by
  induction a with
  | nil => rfl
  | cons t ts ih => simp [cells3, ih]; omega
theorem cells3_get (k : IntKind) : ∀ (ts : List T3) (i : Nat) (t : T3), ts[i]? = some t → (cells3 k ts)[i * 3]? = some (.int k t.1) ∧ (cells3 k ts)[i * 3 + 1]? = some (.int k t.2.1) ∧ (cells3 k ts)[i * 3 + 2]? = some (.int k t.2.2)
  | [], i, t, h => by simp at h
  | u :: us, 0, t, h => by simp at h; subst h; simp [cells3]
  | u :: us, i + 1, t, h => by
    have := cells3_get k us i t (by simpa using h)
    rw [show (i + 1) * 3 = i * 3 + 3 by omega]
    exact ⟨this.1, this.2.1, this.2.2⟩
theorem cells3_one (k : IntKind) (ts : List T3) : ∀ u ∈ cells3 k ts, u.oneCell' = true := by
  induction ts with
  | nil => simp [cells3]
  | cons t ts ih =>
    intro u hu
    simp only [cells3, List.mem_cons] at hu
    rcases hu with rfl | rfl | rfl | hu
    · rfl
    · rfl
    · rfl
    · exact ih u hu

/-- A slice of the call's own: it lies in new memory and is not nil. -/
def Owns (w : World) (base : Nat) (e : TypeId) (k : IntKind) (v : Value) (ts : List T3) : Prop := w.ownsRow base e 3 v ts.length (cells3 k ts) ∧ v ≠ .slice none 0 0

theorem Ext.owns {a b : World} (h : Ext a b) {base : Nat} {e : TypeId} {k : IntKind} {v : Value} {ts : List T3} (ho : Owns a base e k v ts) : Owns b base e k v ts :=
  ⟨ho.1.kept (row := none) ⟨h.os, h.tape, h.output, h.size, fun i hi _ => h.block i hi⟩ (by cases hv : v.ownBlock <;> simp), ho.2⟩
theorem Ext.grown {a b c : World} {v : Value} (h : Ext a b) (hg : b.grownBy c v.ownBlock) (hr : ∀ k, v.ownBlock = some k → a.heap.size ≤ k) : Ext a c := Below.grown h hg h.size hr
theorem Owns.form {w : World} {base : Nat} {e : TypeId} {k : IntKind} {v : Value} {ts : List T3} (h : Owns w base e k v ts) : ∃ g cap, v = .slice (some ⟨g, 0, none⟩) ts.length cap ∧ base ≤ g ∧ ts.length ≤ cap ∧ cap ≤ maxLen := by
  rcases h.1.2 with ⟨h0, _⟩ | ⟨g, cap, cur, hv, hb, _, hc, hm, _⟩
  · exact absurd h0 h.2
  · exact ⟨g, cap, hv, hb, hc, hm⟩
theorem Owns.reads {w : World} {base : Nat} {e : TypeId} {v : Value} {ts : List T3} (h : Owns w base e .i64 v ts) : Reads w v ts := by
  obtain ⟨g, cap, rfl, hb, hc, hm⟩ := h.form
  have hr := h.1
  refine .inr ⟨g, 0, cap, rfl, hc, hm, fun i t ht => ?_⟩
  have hi : i < ts.length := (List.getElem?_eq_some_iff.1 ht).1
  obtain ⟨c0, c1, c2⟩ := cells3_get .i64 ts i t ht
  refine ⟨?_, ?_, ?_⟩
  · rw [Nat.zero_add, hr.cellAt (i * 3) (by omega)]; exact c0
  · rw [Nat.zero_add, hr.cellAt (i * 3 + 1) (by omega)]; exact c1
  · rw [Nat.zero_add, hr.cellAt (i * 3 + 2) (by omega)]; exact c2
/-- What the cells of a slice of the package's tiles hold. -/
theorem Owns.cells {w : World} {base : Nat} {e : TypeId} {k : IntKind} {g cap n : Nat} {ts : List T3} (h : Owns w base e k (.slice (some ⟨g, 0, none⟩) n cap) ts) (i : Nat) (t : T3) (ht : ts[i]? = some t) :
    w.cell? ⟨g, i * 3, none⟩ = some (.int k t.1) ∧ w.cell? ⟨g, i * 3 + 1, none⟩ = some (.int k t.2.1) ∧ w.cell? ⟨g, i * 3 + 2, none⟩ = some (.int k t.2.2) := by
  have hi : i < ts.length := (List.getElem?_eq_some_iff.1 ht).1
  obtain ⟨c0, c1, c2⟩ := cells3_get k ts i t ht
  obtain ⟨g', cap', hv, _⟩ := h.form
  cases hv
  have hr := h.1
  exact ⟨by rw [hr.cellAt (i * 3) (by omega)]; exact c0, by rw [hr.cellAt (i * 3 + 1) (by omega)]; exact c1, by rw [hr.cellAt (i * 3 + 2) (by omega)]; exact c2⟩
/-- A slice literal. -/
theorem Owns.lit (w : World) (e : TypeId) (k : IntKind) (ts : List T3) (base : Nat) (hb : base ≤ w.heap.size) (hm : ts.length ≤ maxLen) : Owns (w.alloc (.cells (cells3 k ts).toArray e)) base e k (.slice (some ⟨w.heap.size, 0, none⟩) ts.length ts.length) ts := by
  refine ⟨⟨cells3_length k ts, .inr ⟨w.heap.size, ts.length, _, rfl, hb, heap_alloc_new w _, Nat.le_refl _, hm, by simp [cells3_length], ?_⟩⟩, by simp⟩
  rw [List.take_of_length_le (by simp [cells3_length])]

/-- 'append(out, x)' of one tile that has just been laid in a block of its own. -/
theorem append_one {P : Program} {W : World} {ops : Array Oper} {rest : List Oper} {o : Oper} {a : Act} {Q : Exit → Act → World → Prop} (hgd : o.guard = none) (s x : Operand) (t : TypeId)
    (ho : o.op = .call { callee := .builtin .append, args := #[s, x], argTypes := #[t, t] }) (base : Nat) (e : TypeId) (k : IntKind) (z : Value) (bytes : Nat) (ht : P.underlying t = some (.slice e))
    (hinfo : (P.info? e).map (fun i => (i.zero, i.size, i.bytes)) = some (some z, 3, bytes)) (hz : z.cells.size = 3) (hby : bytes ≤ 64) (v : Value) (ts : List T3) (p q r : Int) (hs : a.eval s = v)
    (hown : Owns (W.alloc (.cells #[.int k p, .int k q, .int k r] e)) base e k v ts) (hx : a.eval x = .slice (some ⟨W.heap.size, 0, none⟩) 1 1) (hlen : ts.length ≤ 1048576) (hbase : base ≤ W.heap.size)
    (h : ∀ v' w', Owns w' base e k v' (ts ++ [(p, q, r)]) → (∀ b, Ext b (W.alloc (.cells #[.int k p, .int k q, .int k r] e)) → b.heap.size ≤ base → Ext b w') → wpList P ops Q rest (a.put o.dst v') w') :
    wpList P ops Q (o :: rest) a (W.alloc (.cells #[.int k p, .int k q, .int k r] e)) := by
  obtain ⟨i0, hi, hz0, hz1, hz2⟩ := info_parts hinfo
  have hl1 : (ts.length + 1) * bytes ≤ (1048576 + 1) * 64 := Nat.mul_le_mul (by omega) hby
  refine wpList_append_own _ hgd s x t ho base e i0 z 3 bytes ht hi hz0 hz1 hz2 hz (by decide) v ts.length (cells3 k ts) hs hown.1 ⟨W.heap.size, 0, none⟩ 1 1 [.int k p, .int k q, .int k r] hx rfl ?_ ?_ (by simp only [maxLen]; omega) (by omega) (by simp; omega) ?_
  · intro j u hu
    have hb := blk_new W (.cells #[.int k p, .int k q, .int k r] e)
    have hc := cell_of_blk hb
    match j, hu with
    | 0, hu => simpa [Addr.add] using (hc 0).trans hu
    | 1, hu => simpa [Addr.add] using (hc 1).trans hu
    | 2, hu => simpa [Addr.add] using (hc 2).trans hu
    | j + 3, hu => simp at hu
  · intro u hu
    simp only [List.mem_cons, List.not_mem_nil, or_false] at hu
    rcases hu with rfl | rfl | rfl <;> rfl
  · intro v' w' h1 h2 h3
    refine h v' w' ⟨?_, fun e => ?_⟩ (fun b hb hle => Ext.grown hb h2 fun k hk => ?_)
    · rw [cells3_append]; simpa [cells3] using h1
    · have := (h3.1 e).2
      omega
    · exact Nat.le_trans hle (hown.1.lt k hk).1

theorem infoT : (Try.prog.info? 28).map (fun i => (i.zero, i.size, i.bytes)) = some (some (.agg #[.int .i64 0, .int .i64 0, .int .i64 0]), 3, 24) := by kernel_rfl
theorem infoM : (Try.prog.info? 45).map (fun i => (i.zero, i.size, i.bytes)) = some (some (.agg #[.int .u32 0, .int .u32 0, .int .u32 0]), 3, 12) := by kernel_rfl

end Go.Proofs.Ytdkknlnlfaoapaa
