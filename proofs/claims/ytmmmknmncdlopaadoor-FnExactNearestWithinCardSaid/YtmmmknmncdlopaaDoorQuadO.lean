/- A quadtree in memory, and (*Quadtree).Add. Condition: the error's variable holds a pointer. -/
import Derived.Test.YtmmmknmncdlopaaDoorQuadN
import Derived.Test.YtmmmknmncdlopaaDoorQuadC
namespace Go.Proofs.YtmmmknmncdlopaaDoor
open Go.ChangeShapes Go.WideShapes Go.ChangeAt Go.RowKit
open Go.Proofs.YtmmmknmncdlopaaDoor.F

/-- A quadtree at block q over a region, its tree t, all in blocks from B on. -/
structure Tree (w : World) (B q l b r tp : Nat) (t : Tr) : Prop where
  hq : w.heap[q]? = some (.cells #[fl l, fl b, fl r, fl tp, ptr t] 95 (0, 0))
  at' : At w t
  nd : (bks t).Nodup
  nq : q ∉ bks t
  base : B ≤ q ∧ ∀ k ∈ bks t, B ≤ k
  reg : Reg t l r b tp
  sm : ∀ x ∈ its t, Sm x
  bd : Bd l ∧ Bd r ∧ Bd b ∧ Bd tp

theorem inr_iff {x : T3} {l b r tp : Nat} : outB x (l, b, r, tp) = false ↔ Inr x l r b tp := by
  unfold outB Inr
  simp only [Bool.or_eq_false_iff, decide_eq_false_iff_not]
  constructor
  · rintro ⟨h1, h2, h3, h4⟩; exact ⟨by omega, by omega, by omega, by omega⟩
  · rintro ⟨h1, h2, h3, h4⟩; exact ⟨by omega, by omega, by omega, by omega⟩

section
variable {w w' : World} {B q l b r tp : Nat} {t : Tr}
theorem Tree.ext (T : Tree w B q l b r tp t) (h : Ext w w') : Tree w' B q l b r tp t := ⟨Ext.blk h T.hq, T.at'.ext h, T.nd, T.nq, T.base, T.reg, T.sm, T.bd⟩
theorem Tree.lt (T : Tree w B q l b r tp t) : q < w.heap.size := (Array.getElem?_eq_some_iff.1 T.hq).1
theorem Tree.frame (T : Tree w B q l b r tp t) (h : ∀ j, j < w.heap.size → w'.heap[j]? = w.heap[j]?) : Tree w' B q l b r tp t :=
  ⟨(h q T.lt).trans T.hq, T.at'.frame fun k hk => h k (T.at'.lt k hk), T.nd, T.nq, T.base, T.reg, T.sm, T.bd⟩
theorem Tree.size (T : Tree w B q l b r tp t) : B ≤ w.heap.size := Nat.le_of_lt (Nat.lt_of_le_of_lt T.base.1 T.lt)
/-- The tree put anew. -/
theorem Tree.put (T : Tree w B q l b r tp t) {t' : Tr} (hq : w'.heap[q]? = some (.cells #[fl l, fl b, fl r, fl tp, ptr t'] 95 (0, 0))) (hat : At w' t') (nd : (bks t').Nodup) (hb : ∀ k ∈ bks t', k ∈ bks t ∨ w.heap.size ≤ k) (hr : Reg t' l r b tp) (hs : ∀ x ∈ its t', Sm x) : Tree w' B q l b r tp t' :=
  ⟨hq, hat, nd, fun h => (hb q h).elim T.nq (fun h => by have := T.lt; omega), ⟨T.base.1, fun k hk => (hb k hk).elim (T.base.2 k) (fun h => Nat.le_trans T.size h)⟩, hr, hs, T.bd⟩
end

/-- What Add leaves. -/
def TopSays (B q l b r tp : Nat) (t : Tr) (x : T3) (ea : Addr) (w : World) (e : Ending) (w' : World) : Prop :=
  ((outB x (l, b, r, tp) = false ∧ e = .returned .nilIface ∧ ∃ t', Tree w' B q l b r tp t' ∧ t' ≠ .nil ∧ (its t').Perm (x :: its t) ∧ ∀ k ∈ bks t', k ∈ bks t ∨ w.heap.size ≤ k) ∨ (outB x (l, b, r, tp) = true ∧ e = .returned (.iface 128 (.pointer (some ea))) ∧ Tree w' B q l b r tp t)) ∧ Mod (q :: bks t) w w'

theorem contains_any {l b r tp : Nat} (x : T3) (hx : Sm x) (bd : Bd l ∧ Bd r ∧ Bd b ∧ Bd tp) (w : World) :
    Calls Tryd.prog 53 #[.agg #[fl l, fl b, fl r, fl tp], .agg #[fl (I x.1), fl (I x.2.1)]] w fun e w' => e = .returned (.bool (!outB x (l, b, r, tp))) ∧ Ext w w' := by
  have P1 := I_F x.1 (by have := hx.1; omega)
  have P2 := I_F x.2.1 (by have := hx.2; omega)
  have g1 := lt_val P2 bd.2.2.1.1
  have g2 := lt_val bd.2.2.2.1 P2
  have g3 := lt_val P1 bd.1.1
  have g4 := lt_val bd.2.1.1 P1
  have HO := Lib.hid (show outB x (l, b, r, tp) = (decide (x.1 * U < val l) || (decide (val r < x.1 * U) || (decide (x.2.1 * U < val b) || decide (val tp < x.2.1 * U)))) from rfl)
  generalize decide (x.1 * U < val l) = t1 at *
  generalize decide (val r < x.1 * U) = t2 at *
  generalize decide (x.2.1 * U < val b) = t3 at *
  generalize decide (val tp < x.2.1 * U) = t4 at *
  clear P1 P2 bd hx
  cases t3
  cases t4
  cases t1
  cases t2
  all_goals
    go_enter Tryd.func53, Tryd.ntmps53
    go_wp2
    go_ret
    exact ⟨by rw [HO.out]; simp, ((Ext.refl _).alloc _).alloc _⟩

set_option maxRecDepth 8000 in
set_option maxHeartbeats 6400000 in
theorem add_top {B q l b r tp : Nat} {t : Tr} {x : T3} {w : World} {ea : Addr} (hx : Sm x) (T : Tree w B q l b r tp t) (he : w.cell? ⟨0, 0, none⟩ = some (.iface 128 (.pointer (some ea)))) :
    Calls Tryd.prog 45 #[pt q, iv (some x)] w (TopSays B q l b r tp t x ea w) := by
  have HT := Lib.hid T; have HX := Lib.hid hx; have HE := Lib.hid he
  clear T hx he
  have i1 := item_n x; have i2 := item_m x
  change Calls _ _ #[pt q, .iface 25 (.agg #[.int .i64 x.1, .int .i64 x.2.1, .int .i64 x.2.2])] _ _
  go_enter Tryd.func45, Tryd.ntmps45
  go_wp2_with fail
  refine (point_any _ _ _ w).mono ?_
  rintro e w2 ⟨rfl, hx2⟩
  have X2 := Lib.hid (hx2.alloc (.cells #[fl (I x.1), fl (I x.2.1)] 64))
  have BP := Lib.hid (blk_new w2 (.cells #[fl (I x.1), fl (I x.2.1)] 64))
  have HC := Lib.hid (fun w => contains_any x HX.out HT.out.bd w)
  have st := st_fl
  clear hx2
  go_wp2_with fail
  generalize (w2.alloc (.cells #[fl (I x.1), fl (I x.2.1)] 64)) = wb at *
  have T2 := Lib.hid (HT.out.ext X2.out)
  have L1 := fun e : Later wb => cell_of_blk (Ext.blk e.h T2.out.hq)
  have L2 := fun e : Later wb => cell_of_blk (Ext.blk e.h BP.out)
  refine region_ext (by kernel_rfl) (by kernel_rfl) (fun hc => ?_)
  repeat (go_big_quiet_step (exact Calls.later (HC.out _)))
  refine wpQuiet_nil ?_
  rintro w3 ⟨⟨_, hw3⟩, rfl⟩
  clear L1 L2 hc i1 i2
  have T3 := Lib.hid (T2.out.ext hw3)
  have X3 := Lib.hid (X2.out.trans hw3)
  clear hw3 T2 X2 BP
  by_cases ho : outB x (l, b, r, tp) = true
  · have GE := Ext.cell X3.out HE.out
    have FIN := Lib.hid (show TopSays B q l b r tp t x ea w (.returned (.iface 128 (.pointer (some ea)))) w3 from ⟨.inr ⟨ho, rfl, T3.out⟩, Mod.of_ext X3.out⟩)
    rw [ho]
    clear ho
    go_wp2_with fail
    go_ret
    exact FIN.out
  · rw [Bool.not_eq_true] at ho
    have HO := Lib.hid ho
    rw [ho]
    clear ho
    have HI := Lib.hid (inr_iff.1 HO.out)
    rcases t with _ | ⟨k, u, c0, c1, c2, c3⟩
    · have CQ := cell_of_blk (show w3.heap[q]? = some (.cells #[fl l, fl b, fl r, fl tp, .pointer none] 95 (0, 0)) from T3.out.hq)
      have FQ := free_of_blk T3.out.hq
      have hq : q < w3.heap.size := T3.out.lt
      go_wp2_with fail
      go_ret
      have CQ' := blk_old (blk_setCell T3.out.hq 4 (pt w3.heap.size)) (.cells #[iv (some x), .pointer none, .pointer none, .pointer none, .pointer none] 105)
      have CK := blk_new (w3.setCell ⟨q, 4, none⟩ (pt w3.heap.size)) (.cells #[iv (some x), .pointer none, .pointer none, .pointer none, .pointer none] 105)
      rw [size_setCell] at CK
      refine ⟨.inl ⟨HO.out, rfl, .node w3.heap.size (some x) .nil .nil .nil .nil, T3.out.put ?_ ⟨?_, trivial, trivial, trivial, trivial⟩ (by simp [bks]) (by simp [bks]) ⟨?_, trivial, trivial, trivial, trivial⟩ ?_, by simp, by simp [its_node]; simp [its, nds], fun j hj => ?_⟩, ?_⟩
      · exact CQ'
      · exact CK
      · intro y hy; simp [its, nds] at hy; rw [hy]; exact HI.out
      · intro y hy; simp [its, nds] at hy; rw [hy]; exact HX.out
      · right; simp [bks] at hj; rw [hj]; exact X3.out.size
      · exact (Mod.of_ext X3.out).trans ((Mod.set ⟨q, 4, none⟩ _ (by simp)).trans (Mod.of_ext ((Ext.refl _).alloc _)))
    · rcases u with _ | u
      · have CQ := cell_of_blk (show w3.heap[q]? = some (.cells #[fl l, fl b, fl r, fl tp, pt k] 95 (0, 0)) from T3.out.hq)
        have CK := cell_of_blk (show w3.heap[k]? = some (.cells #[.nilIface, ptr c0, ptr c1, ptr c2, ptr c3] 105 (0, 0)) from T3.out.at'.1)
        have FK := free_of_blk T3.out.at'.1
        go_wp2_with fail
        go_ret
        have nd := T3.out.nd
        have hkn : ∀ d : Tr, (d = c0 ∨ d = c1 ∨ d = c2 ∨ d = c3) → k ∉ bks d := fun d hd => by
          have := nd
          simp only [bks, List.nodup_cons, List.mem_append] at this
          rcases hd with rfl | rfl | rfl | rfl <;> grind
        have keep : ∀ d : Tr, At w3 d → k ∉ bks d → At (w3.setCell ⟨k, 0, none⟩ (iv (some x))) d := fun d hd hm => hd.frame fun j hj => blk_setCell_ne (b := k) (fun e => hm (e ▸ hj)) _ _
        have hqk : q ≠ k := fun e => T3.out.nq (by rw [e]; simp [bks])
        obtain ⟨h0, h1, h2, h3, h4⟩ := T3.out.at'
        obtain ⟨r0, r1⟩ := T3.out.reg
        refine ⟨.inl ⟨HO.out, rfl, .node k (some x) c0 c1 c2 c3, T3.out.put ?_ ⟨?_, keep c0 h1 (hkn _ (by simp)), keep c1 h2 (hkn _ (by simp)), keep c2 h3 (hkn _ (by simp)), keep c3 h4 (hkn _ (by simp))⟩ nd (fun j hj => .inl hj) ⟨?_, r1⟩ ?_, by simp, by simp [its_node], fun j hj => .inl hj⟩, ?_⟩
        · exact (blk_setCell_ne hqk 0 _).trans T3.out.hq
        · refine (blk_setCell h0 0 _).trans ?_; rfl
        · intro y hy
          rw [its_node] at hy
          rcases List.mem_append.1 hy with h | h
          · simp at h; rw [h]; exact HI.out
          · exact r0 y (by rw [its_node]; simpa using h)
        · intro y hy
          rw [its_node] at hy
          rcases List.mem_append.1 hy with h | h
          · simp at h; rw [h]; exact HX.out
          · exact T3.out.sm y (by rw [its_node]; simpa using h)
        · exact (Mod.of_ext X3.out).trans (Mod.set ⟨k, 0, none⟩ _ (by simp [bks]))
      · have CQ := cell_of_blk (show w3.heap[q]? = some (.cells #[fl l, fl b, fl r, fl tp, pt k] 95 (0, 0)) from T3.out.hq)
        have CK := cell_of_blk (show w3.heap[k]? = some (.cells #[.iface 25 (.agg #[.int .i64 u.1, .int .i64 u.2.1, .int .i64 u.2.2]), ptr c0, ptr c1, ptr c2, ptr c3] 105 (0, 0)) from T3.out.at'.1)
        go_wp2_with fail
        clear CQ CK
        have i1 := item_n x; have i2 := item_m x
        have HPT := Lib.hid (fun w => point_any x.1 x.2.1 x.2.2 w)
        have L1 := fun e : Later w3 => cell_of_blk (Ext.blk e.h (show w3.heap[q]? = some (.cells #[fl l, fl b, fl r, fl tp, pt k] 95 (0, 0)) from T3.out.hq))
        refine region_ext_tail 32 (by kernel_rfl) (by kernel_rfl) (fun hc => ?_)
        simp only [List.take_succ_cons, List.take_zero, List.drop_succ_cons, List.drop_zero]
        repeat (go_big_quiet_step (exact Calls.later (HPT.out _)))
        refine wpQuiet_nil ?_
        rintro w4 ⟨⟨_, hw4⟩, rfl⟩
        clear L1 hc i1 i2
        have T4 := Lib.hid (T3.out.ext hw4)
        have X4 := Lib.hid (X3.out.trans hw4)
        clear hw4
        go_wp2_with fail
        refine (add_any q x HX.out (.node k (some u) c0 c1 c2 c3) l r b tp w4 (by simp) T4.out.at' T4.out.nd T4.out.reg HI.out T4.out.bd.1 T4.out.bd.2.1 T4.out.bd.2.2.1 T4.out.bd.2.2.2).mono ?_
        rintro e w5 ⟨rfl, t', hp, hat, nd, hb, hr, hperm, hm⟩
        have FIN := Lib.hid (show TopSays B q l b r tp (.node k (some u) c0 c1 c2 c3) x ea w (.returned .nilIface) w5 from by
          refine ⟨.inl ⟨HO.out, rfl, t', T4.out.put ?_ hat nd hb hr ?_, fun e => ?_, hperm, fun k hk => (hb k hk).imp id (fun h => Nat.le_trans X4.out.size h)⟩, (Mod.of_ext X4.out).trans (hm.mono fun k hk => List.mem_cons_of_mem _ hk)⟩
          · rw [hm.block q T4.out.lt T4.out.nq, hp]; exact T4.out.hq
          · intro y hy
            rcases List.mem_cons.1 (hperm.mem_iff.1 hy) with rfl | h
            · exact HX.out
            · exact T4.out.sm y h
          · rw [e] at hp; cases hp)
        clear hp hat nd hb hr hperm hm
        go_wp2_with fail
        go_ret
        exact FIN.out

end Go.Proofs.YtmmmknmncdlopaaDoor
