/- Merging up: the end of a round in plain terms; the blocks that a round holds, and its stores. No condition. -/
import Derived.Test.YtdkknlnlfaoapaaMergeStep
import Derived.Test.YtdkknlnlfaoapaaMergeRes
import Derived.Test.YtdkknlnlfaoapaaRanges
import Derived.Test.YtdkknlnlfaoapaaSibs
import Derived.Maps.Own
import Derived.Maps.RangeWalk
import Derived.Deep.LoopGhost
import Derived.Deep.DeepCutAuto
namespace Go.Proofs.Ytdkknlnlfaoapaa
open Go.ChangeShapes Go.WideShapes Go.ChangeAt Go.RowKit

theorem LInv.start {c : Nat} {top : Bool} {z : Int} {l m : Ents} (nl : (l.map (·.1)).Nodup) (nm : (m.map (·.1)).Nodup) (gl : ∀ t ∈ l.map (·.1), lev z t) (gm : ∀ t ∈ m.map (·.1), ∃ k : Int, 0 ≤ k ∧ k ≤ 31 ∧ lev k t) :
    LInv c top z (getB l) (getB m) (l.map (·.1)) l m [] #[] [] :=
  ⟨nl, nm, by simp, fun t => by simp, fun t => by simp, fun t => by simp [getB, seek], by simp, by simp, ⟨[], by simp⟩, by simp, gl, gm, by simp⟩

theorem LInv.done {c : Nat} {top : Bool} {z : Int} {f0 g0 : T3 → Bool} {ks : List T3} {l m q : Ents} {seen : Array Nat} {D : List T3} (h : LInv c top z f0 g0 ks l m q seen D) (hc : 1 ≤ c) (hall : ∀ i, i < ks.length → i < l.length → i ∈ seen) (hks : ∀ t, f0 t = true → t ∈ ks) :
    (∀ t, getB m t = (g0 t || (f0 t && decide (grp f0 (par t) < c)) || (top && decide (c ≤ grp f0 t)))) ∧ ∀ t, getB q t = (!top && decide (c ≤ grp f0 t)) := by
  have hD : ∀ t, f0 t = true → par t ∈ D := by
    intro t hf
    obtain ⟨i, hi, e⟩ := List.mem_iff_getElem.1 (hks t hf)
    obtain ⟨ex, hk⟩ := h.hk
    have hl : i < l.length := by
      have := congrArg List.length hk
      simp at this; omega
    obtain ⟨u, h1, h2⟩ := h.hs i (hall i hi hl)
    have : (l.map (·.1))[i]? = some t := prefix_get ex hk (by rw [List.getElem?_eq_getElem hi, e])
    rw [this] at h1
    cases h1
    exact h2 hf
  have hG : ∀ t, c ≤ grp f0 t → t ∈ D := by
    intro t ht
    obtain ⟨s, h1, h2⟩ := grp_pos_iff.1 (show 0 < grp f0 t by omega)
    rw [← h1]; exact hD s h2
  refine ⟨fun t => ?_, fun t => ?_⟩
  · rw [h.hm t]
    have a : (f0 t && decide (par t ∈ D)) = f0 t := by
      cases hf : f0 t
      · simp
      · simp [hD t hf]
    have b : (decide (t ∈ D) && decide (c ≤ grp f0 t)) = decide (c ≤ grp f0 t) := by
      by_cases hg : c ≤ grp f0 t
      · simp [hg, hG t hg]
      · simp [hg]
    rw [a, Bool.and_assoc top, b]
  · rw [h.hq t]
    by_cases hg : c ≤ grp f0 t
    · simp [hg, hG t hg]
    · simp [hg]

theorem LInv.hit {c : Nat} {top : Bool} {z : Int} {f0 g0 : T3 → Bool} {ks : List T3} {l m q : Ents} {seen : Array Nat} {D : List T3} (h : LInv c top z f0 g0 ks l m q seen D) {i : Nat} {t : T3} (hi : l[i]? = some (t, true)) : f0 t = true ∧ par t ∉ D := by
  have := h.hl t
  rw [getB_at h.nl hi] at this
  simpa using this.symm
theorem getB_all {q : Ents} (h : ∀ e ∈ q, e.2 = true) (nd : (q.map (·.1)).Nodup) (t : T3) : getB q t = decide (t ∈ q.map (·.1)) := by
  by_cases hm : t ∈ q.map (·.1)
  · simp only [hm, decide_true]
    obtain ⟨e, he, rfl⟩ := List.mem_map.1 hm
    obtain ⟨i, hi, hh⟩ := List.mem_iff_getElem.1 he
    have h2 := h e he
    obtain ⟨t, v⟩ := e
    dsimp only at h2; subst h2
    exact getB_at nd (by rw [List.getElem?_eq_getElem hi, hh])
  · simp only [hm, decide_false]
    cases hg : getB q t
    · rfl
    · exact absurd (List.mem_map.2 ⟨_, getB_mem hg, rfl⟩) hm
theorem run_len_set {k : IntKind} {M K E : TypeId} (hM : Try.prog.underlying M = some (.map K E)) (ty : TypeId) (w : World) (b : Nat) (l : Ents) (h : SetAt k w b l) : (Builtin.len_ #[M] ty #[.map (some b)]).run Try.prog w = .ok (.int .i64 l.length) w := by
  unfold SetAt at h
  simp [Builtin.len_, run_underlying hM, run_getObj_map w b _ _ h, goInt, ents_length]

/-- What a map of tiles is, as a whole. -/
def MapOf (l : Ents) (f : T3 → Bool) : Prop := (l.map (·.1)).Nodup ∧ (∀ t, getB l t = f t) ∧ ∀ t ∈ l.map (·.1), ∃ k : Int, 0 ≤ k ∧ k ≤ 31 ∧ lev k t

/-- The blocks that a round holds. -/
structure St (w0 w : World) (B bl bm bq r bt g : Nat) (l m q : Ents) (since last : Nat) (seen : Array Nat) (ct cs : Array Value) : Prop where
  l : SetAt .u32 w bl l
  m : SetAt .u32 w bm m
  q : SetAt .u32 w bq q
  it : w.heap[r]? = some (.mapIter (some bl) since seen last)
  t : w.heap[bt]? = some (.cells ct 45 (0, 0))
  s : w.heap[g]? = some (.cells cs 45 (0, 0))
  ne1 : bl ≠ bm
  ne2 : bl ≠ bq
  ne3 : bm ≠ bq
  bel : Below B w0 w
  hl : B ≤ bl
  hm : B ≤ bm
  hq : B ≤ bq
theorem set_ne {w : World} {b j : Nat} {k : IntKind} {l : Ents} {o : Obj} (h : SetAt k w b l) (hj : w.heap[j]? = some o) (ho : ∀ es c, o ≠ .map es c) : j ≠ b := by
  rintro rfl
  unfold SetAt at h
  rw [h] at hj
  exact ho _ _ (Option.some.inj hj).symm

section
variable {w0 w : World} {B bl bm bq r bt g : Nat} {l m q : Ents} {since last : Nat} {seen : Array Nat} {ct cs : Array Value}
theorem St.upl (h : St w0 w B bl bm bq r bt g l m q since last seen ct cs) (l' : Ents) : St w0 (putSet w bl .u32 l') B bl bm bq r bt g l' m q since last seen ct cs :=
  ⟨setAt_put h.l l', by unfold SetAt; rw [put_other w (Ne.symm h.ne1)]; exact h.m, by unfold SetAt; rw [put_other w (Ne.symm h.ne2)]; exact h.q,
    by rw [put_other w (set_ne h.l h.it (by simp))]; exact h.it, by rw [put_other w (set_ne h.l h.t (by simp))]; exact h.t, by rw [put_other w (set_ne h.l h.s (by simp))]; exact h.s,
    h.ne1, h.ne2, h.ne3, below_putSet h.bel h.hl _ _, h.hl, h.hm, h.hq⟩
theorem St.upm (h : St w0 w B bl bm bq r bt g l m q since last seen ct cs) (m' : Ents) : St w0 (putSet w bm .u32 m') B bl bm bq r bt g l m' q since last seen ct cs :=
  ⟨by unfold SetAt; rw [put_other w h.ne1]; exact h.l, setAt_put h.m m', by unfold SetAt; rw [put_other w (Ne.symm h.ne3)]; exact h.q,
    by rw [put_other w (set_ne h.m h.it (by simp))]; exact h.it, by rw [put_other w (set_ne h.m h.t (by simp))]; exact h.t, by rw [put_other w (set_ne h.m h.s (by simp))]; exact h.s,
    h.ne1, h.ne2, h.ne3, below_putSet h.bel h.hm _ _, h.hl, h.hm, h.hq⟩
theorem St.upq (h : St w0 w B bl bm bq r bt g l m q since last seen ct cs) (q' : Ents) : St w0 (putSet w bq .u32 q') B bl bm bq r bt g l m q' since last seen ct cs :=
  ⟨by unfold SetAt; rw [put_other w h.ne2]; exact h.l, by unfold SetAt; rw [put_other w h.ne3]; exact h.m, setAt_put h.q q',
    by rw [put_other w (set_ne h.q h.it (by simp))]; exact h.it, by rw [put_other w (set_ne h.q h.t (by simp))]; exact h.t, by rw [put_other w (set_ne h.q h.s (by simp))]; exact h.s,
    h.ne1, h.ne2, h.ne3, below_putSet h.bel h.hq _ _, h.hl, h.hm, h.hq⟩
theorem St.ext (h : St w0 w B bl bm bq r bt g l m q since last seen ct cs) {w2 : World} (hx : Ext w w2) : St w0 w2 B bl bm bq r bt g l m q since last seen ct cs :=
  ⟨Ext.blk hx h.l, Ext.blk hx h.m, Ext.blk hx h.q, Ext.blk hx h.it, Ext.blk hx h.t, Ext.blk hx h.s, h.ne1, h.ne2, h.ne3,
    h.bel.trans (Below.mono hx (Nat.le_trans h.hl (Nat.le_of_lt (Array.getElem?_eq_some_iff.1 h.l).1))), h.hl, h.hm, h.hq⟩

/-- A store into a map, as an arm of the walk. -/
theorem wpList_update {ops : Array Oper} {rest : List Oper} {o : Oper} {a : Act} {Q : Exit → Act → World → Prop} (hg : o.guard = none) (mo ko vo : Operand) (hop : o.op = Op.mapUpdate 39 mo ko vo)
    (b : Nat) (e : Ents) (h : SetAt .u32 w b e) (hm : a.eval mo = .map (some b)) (x y z : Int) (hk : a.eval ko = .agg #[.int .u32 x, .int .u32 y, .int .u32 z]) (c : Bool) (hv : a.eval vo = .bool c)
    (hK : wpList Try.prog ops Q rest (a.put o.dst (.tuple #[])) (putSet w b .u32 (putB e (x, y, z) c))) : wpList Try.prog ops Q (o :: rest) a w := by
  refine wpList_plain hg fun K' hK' => ?_
  unfold Oper.wp
  have hrun := run_update key_mtile (M := 39) Try.underlying39 w b e h x y z c
  simp [execOp, hop, hm, hk, hv, hrun, Result.andThen]
  exact hK' _ _ hK
end

section
variable {w0 w : World} {B bl bm bq r bt g : Nat} {l m q : Ents} {since last : Nat} {seen : Array Nat} {ct cs : Array Value} {ops : Array Oper} {rest : List Oper} {o : Oper} {a : Act} {Q : Exit → Act → World → Prop}
theorem wpList_upl (h : St w0 w B bl bm bq r bt g l m q since last seen ct cs) (hg : o.guard = none) (mo ko vo : Operand) (hop : o.op = Op.mapUpdate 39 mo ko vo)
    (hm : a.eval mo = .map (some bl)) (x y z : Int) (hk : a.eval ko = .agg #[.int .u32 x, .int .u32 y, .int .u32 z]) (c : Bool) (hv : a.eval vo = .bool c)
    (hK : ∀ w2, RowKit.Hid (St w0 w2 B bl bm bq r bt g (putB l (x, y, z) c) m q since last seen ct cs) → (∀ o, w2.cell? ⟨g, o, none⟩ = cs[o]?) → (∀ o, w2.cell? ⟨bt, o, none⟩ = ct[o]?) → wpList Try.prog ops Q rest (a.put o.dst (.tuple #[])) w2) : wpList Try.prog ops Q (o :: rest) a w :=
  wpList_update hg mo ko vo hop bl l h.l hm x y z hk c hv (hK _ (Lib.hid (h.upl _)) (cell_of_blk (h.upl _).s) (cell_of_blk (h.upl _).t))
theorem wpList_upm (h : St w0 w B bl bm bq r bt g l m q since last seen ct cs) (hg : o.guard = none) (mo ko vo : Operand) (hop : o.op = Op.mapUpdate 39 mo ko vo)
    (hm : a.eval mo = .map (some bm)) (x y z : Int) (hk : a.eval ko = .agg #[.int .u32 x, .int .u32 y, .int .u32 z]) (c : Bool) (hv : a.eval vo = .bool c)
    (hK : ∀ w2, RowKit.Hid (St w0 w2 B bl bm bq r bt g l (putB m (x, y, z) c) q since last seen ct cs) → (∀ o, w2.cell? ⟨g, o, none⟩ = cs[o]?) → (∀ o, w2.cell? ⟨bt, o, none⟩ = ct[o]?) → wpList Try.prog ops Q rest (a.put o.dst (.tuple #[])) w2) : wpList Try.prog ops Q (o :: rest) a w :=
  wpList_update hg mo ko vo hop bm m h.m hm x y z hk c hv (hK _ (Lib.hid (h.upm _)) (cell_of_blk (h.upm _).s) (cell_of_blk (h.upm _).t))
theorem wpList_upq (h : St w0 w B bl bm bq r bt g l m q since last seen ct cs) (hg : o.guard = none) (mo ko vo : Operand) (hop : o.op = Op.mapUpdate 39 mo ko vo)
    (hm : a.eval mo = .map (some bq)) (x y z : Int) (hk : a.eval ko = .agg #[.int .u32 x, .int .u32 y, .int .u32 z]) (c : Bool) (hv : a.eval vo = .bool c)
    (hK : ∀ w2, RowKit.Hid (St w0 w2 B bl bm bq r bt g l m (putB q (x, y, z) c) since last seen ct cs) → (∀ o, w2.cell? ⟨g, o, none⟩ = cs[o]?) → (∀ o, w2.cell? ⟨bt, o, none⟩ = ct[o]?) → wpList Try.prog ops Q rest (a.put o.dst (.tuple #[])) w2) : wpList Try.prog ops Q (o :: rest) a w :=
  wpList_update hg mo ko vo hop bq q h.q hm x y z hk c hv (hK _ (Lib.hid (h.upq _)) (cell_of_blk (h.upq _).s) (cell_of_blk (h.upq _).t))
end

/-- Between two rounds. -/
structure Out (w wr : World) (B bl bm : Nat) (l m : Ents) (c : Nat) (f0 : T3 → Bool) (n k : Nat) : Prop where
  sl : SetAt .u32 wr bl l
  sm : SetAt .u32 wr bm m
  ne : bl ≠ bm
  hl : B ≤ bl
  hm : B ≤ bm
  bel : Below B w wr
  nl : (l.map (·.1)).Nodup
  nm : (m.map (·.1)).Nodup
  at' : ∀ e ∈ l, e.2 = true
  fl : getB l = lvF c f0 k
  fm : getB m = lvG c f0 k
  gl : ∀ t ∈ l.map (·.1), lev ((n - k : Nat) : Int) t
  gm : ∀ t ∈ m.map (·.1), ∃ k : Int, 0 ≤ k ∧ k ≤ 31 ∧ lev k t

/-- Within a round. -/
structure Inn (w wr : World) (B bl bm bq r : Nat) (l m q : Ents) (since last : Nat) (seen : Array Nat) : Prop where
  sl : SetAt .u32 wr bl l
  sm : SetAt .u32 wr bm m
  sq : SetAt .u32 wr bq q
  it : wr.heap[r]? = some (.mapIter (some bl) since seen last)
  ne1 : bl ≠ bm
  ne2 : bl ≠ bq
  ne3 : bm ≠ bq
  nr : r ≠ bl ∧ r ≠ bm ∧ r ≠ bq
  bel : Below B w wr
  hl : B ≤ bl
  hm : B ≤ bm
  hq : B ≤ bq
  hr : B ≤ r
  la : l ≠ [] → 0 < last ∨ seen = #[]
theorem Out.inn {w wr : World} {B bl bm : Nat} {l m : Ents} {c : Nat} {f0 : T3 → Bool} {n k : Nat} (h : Out w wr B bl bm l m c f0 n k) :
    Inn w ((wr.alloc (.map #[] 0)).alloc (.mapIter (some bl) l.length #[] l.length)) B bl bm wr.heap.size (wr.heap.size + 1) l m [] l.length l.length #[] := by
  have h1 := (Array.getElem?_eq_some_iff.1 h.sl).1
  have h2 := (Array.getElem?_eq_some_iff.1 h.sm).1
  have hh := h.hl
  have e : (wr.alloc (.map #[] 0)).heap.size = wr.heap.size + 1 := by simp
  refine ⟨blk_old (blk_old h.sl _) _, blk_old (blk_old h.sm _) _, blk_old (blk_new wr (.map #[] 0)) _, ?_, h.ne, by omega, by omega, ⟨by omega, by omega, by omega⟩,
    (h.bel.alloc (by omega) _).alloc (by rw [e]; omega) _, h.hl, h.hm, by omega, by omega, fun _ => .inr rfl⟩
  have := blk_new (wr.alloc (.map #[] 0)) (.mapIter (some bl) l.length #[] l.length)
  rwa [e] at this

theorem Inn.step {w wr w2 : World} {B bl bm bq r : Nat} {l m q : Ents} {since last : Nat} {seen : Array Nat} {i : Nat} {p : T3 × Bool} (h : Inn w wr B bl bm bq r l m q since last seen)
    (h3 : l[i]? = some p ∧ i ∉ seen ∧ w2.heap[r]? = some (.mapIter (some bl) since (seen.push i) l.length) ∧ SetAt .u32 w2 bl l ∧ (∀ j, j ≠ r → w2.heap[j]? = wr.heap[j]?) ∧ w2.heap.size = wr.heap.size ∧ ∀ B W, B ≤ r → Below B W wr → Below B W w2) :
    Inn w w2 B bl bm bq r l m q since l.length (seen.push i) :=
  ⟨h3.2.2.2.1, (h3.2.2.2.2.1 bm (Ne.symm h.nr.2.1)).trans h.sm, (h3.2.2.2.2.1 bq (Ne.symm h.nr.2.2)).trans h.sq, h3.2.2.1, h.ne1, h.ne2, h.ne3, h.nr, h3.2.2.2.2.2.2 B w h.hr h.bel, h.hl, h.hm, h.hq, h.hr,
    fun hl => .inl (List.length_pos_iff.2 hl)⟩
theorem Inn.ext {w wr w2 : World} {B bl bm bq r : Nat} {l m q : Ents} {since last : Nat} {seen : Array Nat} (h : Inn w wr B bl bm bq r l m q since last seen) (hx : Ext wr w2) : Inn w w2 B bl bm bq r l m q since last seen :=
  ⟨Ext.blk hx h.sl, Ext.blk hx h.sm, Ext.blk hx h.sq, Ext.blk hx h.it, h.ne1, h.ne2, h.ne3, h.nr, h.bel.trans (Below.mono hx (Nat.le_trans h.hl (Nat.le_of_lt (Array.getElem?_eq_some_iff.1 h.sl).1))), h.hl, h.hm, h.hq, h.hr, h.la⟩
theorem Inn.st {w wr : World} {B bl bm bq r bt g : Nat} {l m q : Ents} {since last : Nat} {seen : Array Nat} {ct cs : Array Value} (h : Inn w wr B bl bm bq r l m q since last seen) (ht : wr.heap[bt]? = some (.cells ct 45 (0, 0))) (hs : wr.heap[g]? = some (.cells cs 45 (0, 0))) :
    St w wr B bl bm bq r bt g l m q since last seen ct cs := ⟨h.sl, h.sm, h.sq, h.it, ht, hs, h.ne1, h.ne2, h.ne3, h.bel, h.hl, h.hm, h.hq⟩
theorem St.inn {w wr : World} {B bl bm bq r bt g : Nat} {l m q : Ents} {since last : Nat} {seen : Array Nat} {ct cs : Array Value} (h : St w wr B bl bm bq r bt g l m q since last seen ct cs) (hr : B ≤ r) (hla : 0 < last) :
    Inn w wr B bl bm bq r l m q since last seen :=
  ⟨h.l, h.m, h.q, h.it, h.ne1, h.ne2, h.ne3, ⟨set_ne h.l h.it (by simp), set_ne h.m h.it (by simp), set_ne h.q h.it (by simp)⟩, h.bel, h.hl, h.hm, h.hq, hr, fun _ => .inl hla⟩

/-- The last loop: what is left is taken over. -/
structure Fin3 (w wr : World) (B bq bm r : Nat) (q m m2 : Ents) (last : Nat) (seen : Array Nat) : Prop where
  sq : SetAt .u32 wr bq q
  sm : SetAt .u32 wr bm m2
  it : wr.heap[r]? = some (.mapIter (some bq) q.length seen last)
  ne : bm ≠ bq
  nr : r ≠ bq ∧ r ≠ bm
  hm : B ≤ bm
  hr : B ≤ r
  bel : Below B w wr
  nm : (m2.map (·.1)).Nodup
  fm : ∀ t, getB m2 t = true ↔ getB m t = true ∨ ∃ i ∈ seen, (q.map (·.1))[i]? = some t
  gm : ∀ t ∈ m2.map (·.1), ∃ k : Int, 0 ≤ k ∧ k ≤ 31 ∧ lev k t
  la : q ≠ [] → 0 < last ∨ seen = #[]
theorem Fin3.step {w wr w5 : World} {B bq bm r : Nat} {q m m2 : Ents} {last : Nat} {seen : Array Nat} {i : Nat} {t : T3} {v : Bool} (h : Fin3 w wr B bq bm r q m m2 last seen) (gq : ∀ t ∈ q.map (·.1), ∃ k : Int, 0 ≤ k ∧ k ≤ 31 ∧ lev k t)
    (h3 : q[i]? = some (t, v) ∧ i ∉ seen ∧ w5.heap[r]? = some (.mapIter (some bq) q.length (seen.push i) q.length) ∧ SetAt .u32 w5 bq q ∧ (∀ j, j ≠ r → w5.heap[j]? = wr.heap[j]?) ∧ w5.heap.size = wr.heap.size ∧ ∀ B W, B ≤ r → Below B W wr → Below B W w5) (o : Obj) :
    Fin3 w (putSet (w5.alloc o) bm .u32 (putB m2 t true)) B bq bm r q m (putB m2 t true) q.length (seen.push i) := by
  obtain ⟨a1, a2, a3, a4, a5, a6, a7⟩ := h3
  have hr := (Array.getElem?_eq_some_iff.1 a3).1
  have hh := h.hr
  have sm : SetAt .u32 (w5.alloc o) bm m2 := blk_old ((a5 bm (Ne.symm h.nr.2)).trans h.sm) _
  refine ⟨?_, setAt_put sm _, ?_, h.ne, h.nr, h.hm, h.hr, below_putSet ((a7 B w h.hr h.bel).alloc (by omega) _) h.hm _ _, nodup_put _ _ _ h.nm, fun u => ?_, ?_, fun hq => .inl (List.length_pos_iff.2 hq)⟩
  · unfold SetAt; rw [put_other _ (Ne.symm h.ne)]; exact blk_old a4 _
  · rw [put_other _ h.nr.2]; exact blk_old a3 _
  · have hk : (q.map (·.1))[i]? = some t := by simp [a1]
    rw [getB_put _ _ _ _ h.nm]
    by_cases hu : u = t
    · subst hu; simp only [if_true, true_iff]; exact .inr ⟨i, by simp, hk⟩
    · rw [if_neg hu, h.fm u]
      constructor
      · rintro (x | ⟨j, hj, e⟩)
        · exact .inl x
        · exact .inr ⟨j, by simp [hj], e⟩
      · rintro (x | ⟨j, hj, e⟩)
        · exact .inl x
        · rcases Array.mem_push.1 hj with hj | rfl
          · exact .inr ⟨j, hj, e⟩
          · rw [hk] at e; exact absurd (Option.some.inj e).symm hu
  · intro u hu
    obtain ⟨e, p1, p2, p3⟩ := putB_prefix m2 t true
    rw [p1] at hu
    rcases List.mem_append.1 hu with hu | hu
    · exact h.gm u hu
    · rw [p3 u hu]; exact gq t (List.mem_map.2 ⟨_, List.mem_of_getElem? a1, rfl⟩)
theorem Fin3.done {w wr : World} {B bq bm r : Nat} {q m m2 : Ents} {last : Nat} {seen : Array Nat} (h : Fin3 w wr B bq bm r q m m2 last seen) (nq : (q.map (·.1)).Nodup) (qt : ∀ e ∈ q, e.2 = true) (hall : ∀ i, i < q.length → i < q.length → i ∈ seen) (t : T3) : getB m2 t = (getB m t || getB q t) := by
  rw [getB_all qt nq t, Bool.eq_iff_iff, h.fm t]
  simp only [Bool.or_eq_true, decide_eq_true_eq]
  constructor
  · rintro (x | ⟨i, _, e⟩)
    · exact .inl x
    · exact .inr (List.mem_of_getElem? e)
  · rintro (x | hm)
    · exact .inl x
    · obtain ⟨i, hi, e⟩ := List.mem_iff_getElem.1 hm
      have hl : i < q.length := by simpa using hi
      exact .inr ⟨i, hall i hl hl, by rw [List.getElem?_eq_getElem hi, e]⟩
/-- The end of a round: the next round's start, or the end of all. -/
theorem round_next {c n low k e : Nat} {top : Bool} {f : T3 → Bool} {m q : Ents} (he : e = n - k) (hle : low < e) (htop : top = decide (e = low + 1)) (nq : (q.map (·.1)).Nodup) (qt : ∀ e ∈ q, e.2 = true) (hc : 1 ≤ c) (hq : c ≤ q.length)
    (h1 : ∀ t, getB m t = (lvG c f k t || (lvF c f k t && decide (grp (lvF c f k) (par t) < c)) || (top && decide (c ≤ grp (lvF c f k) t)))) (h2 : ∀ t, getB q t = (!top && decide (c ≤ grp (lvF c f k) t))) :
    k + 1 < n - low ∧ getB q = lvF c f (k + 1) ∧ getB m = lvG c f (k + 1) := by
  have ht : top = false := by
    cases htt : top
    · rfl
    · have hne : q ≠ [] := by intro e; subst e; simp at hq; omega
      obtain ⟨p, hp⟩ := List.exists_mem_of_ne_nil q hne
      have a := getB_all qt nq p.1
      rw [h2, htt] at a
      have : p.1 ∈ q.map (·.1) := List.mem_map.2 ⟨p, hp, rfl⟩
      simp [this] at a
  subst ht
  have hne : ¬ e = low + 1 := by simpa using htop
  refine ⟨by omega, ?_, ?_⟩
  · funext t; rw [h2 t]; simp [lvF]
  · funext t; rw [h1 t]; simp [lvG]
theorem round_last {c n low k e : Nat} {top : Bool} {f : T3 → Bool} {m q : Ents} (he : e = n - k) (hle : low < e) (htop : top = decide (e = low + 1)) (hc : 1 ≤ c) (hq : q.length < c)
    (h1 : ∀ t, getB m t = (lvG c f k t || (lvF c f k t && decide (grp (lvF c f k) (par t) < c)) || (top && decide (c ≤ grp (lvF c f k) t)))) (h2 : ∀ t, getB q t = (!top && decide (c ≤ grp (lvF c f k) t))) (t : T3) :
    (getB m t || getB q t) = res c f (n - low) t := by
  have hs : (getB m t || getB q t) = (lvG c f (k + 1) t || lvF c f (k + 1) t) := by
    rw [h1, h2]
    show _ = ((lvG c f k t || (lvF c f k t && decide (grp (lvF c f k) (par t) < c))) || decide (c ≤ grp (lvF c f k) t))
    cases top <;> simp
  rw [hs]
  by_cases ht : e = low + 1
  · rw [show n - low = k + 1 by omega]; rfl
  · have htf : top = false := by rw [htop]; simp [ht]
    subst htf
    have hqf : getB q = lvF c f (k + 1) := by funext t; rw [h2 t]; simp [lvF]
    have hg : ∀ p, grp (lvF c f (k + 1)) p < c := fun p => by rw [← hqf]; exact Nat.lt_of_le_of_lt (grp_le q p) hq
    have := res_break hc hg (n - low - (k + 1)) t
    rw [show k + 1 + (n - low - (k + 1)) = n - low by omega] at this
    exact this.symm

theorem msibs_lit (x y z : Int) (w : World) (hz0 : 0 < z) (hz1 : z ≤ 31) (hx0 : 0 ≤ x) (hx1 : x ≤ 1073741824) (hy0 : 0 ≤ y) (hy1 : y ≤ 1073741824) :
    Calls Try.prog 23 #[.agg #[.int .u32 x, .int .u32 y, .int .u32 z]] w fun e w' => ∃ g, e = .returned (.slice (some ⟨g, 0, none⟩) 4 4) ∧
      w'.heap[g]? = some (.cells #[.int .u32 (x / 2 * 2), .int .u32 (y / 2 * 2), .int .u32 z, .int .u32 (x / 2 * 2 + 1), .int .u32 (y / 2 * 2), .int .u32 z, .int .u32 (x / 2 * 2 + 1), .int .u32 (y / 2 * 2 + 1), .int .u32 z, .int .u32 (x / 2 * 2), .int .u32 (y / 2 * 2 + 1), .int .u32 z] 45 (0, 0)) ∧ Ext w w' := by
  have HP := Lib.hid (fun W => mparent_any x y z W hz0 (by omega))
  have HK := Lib.hid (fun W => mchildren_any (x / 2) (y / 2) (z - 1) W (by omega) (by omega) (by omega) (by omega) (by omega) (by omega))
  go_enter Try.func23, Try.ntmps23
  go_wp2_with (go_at_call 24; refine (HP.out _).mono ?_; rintro e w1 ⟨rfl, hb⟩)
  refine (HK.out _).mono ?_
  rintro e w2 ⟨rfl, rfl⟩
  go_wp2
  go_ret
  have hx : Ext w w1 := ((Ext.refl _).alloc _).trans hb
  refine ⟨_, rfl, ?_, (hx.alloc _).alloc _⟩
  have := blk_new (w1.alloc (.cells #[.int .u32 (x / 2), .int .u32 (y / 2), .int .u32 (z - 1)] 45)) (.cells #[.int .u32 (x / 2 * 2), .int .u32 (y / 2 * 2), .int .u32 z, .int .u32 (x / 2 * 2 + 1), .int .u32 (y / 2 * 2), .int .u32 z, .int .u32 (x / 2 * 2 + 1), .int .u32 (y / 2 * 2 + 1), .int .u32 z, .int .u32 (x / 2 * 2), .int .u32 (y / 2 * 2 + 1), .int .u32 z] 45)
  simpa using this

end Go.Proofs.Ytdkknlnlfaoapaa
