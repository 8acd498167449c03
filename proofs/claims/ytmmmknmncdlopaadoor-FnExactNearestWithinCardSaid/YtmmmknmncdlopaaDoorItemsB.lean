/- impl.InBound, InBoundEven, Grown. Conditions: small coordinates; the error's variable holds a pointer. -/
import Derived.Test.YtmmmknmncdlopaaDoorItemsA
namespace Go.Proofs.YtmmmknmncdlopaaDoor
open Go.ChangeShapes Go.WideShapes Go.ChangeAt Go.RowKit
open Go.Proofs.YtmmmknmncdlopaaDoor.F

/-- What a call of the thin package is handed: a box and steps. -/
structure Asked (w : World) (lo hi : T3) (ss : List S4) (sg : Nat) (ea : Addr) : Prop where
  box : lo.1.natAbs ≤ 65536 ∧ lo.2.1.natAbs ≤ 65536 ∧ hi.1.natAbs ≤ 65536 ∧ hi.2.1.natAbs ≤ 65536
  steps : StepsAt w sg ss
  len : ss.length ≤ 65536
  small : ∀ s ∈ ss, Sm s.2
  err : w.cell? ⟨0, 0, none⟩ = some (.iface 128 (.pointer (some ea)))
theorem Asked.ext {w w' : World} {lo hi : T3} {ss : List S4} {sg : Nat} {ea : Addr} (h : Asked w lo hi ss sg ea) (hx : Ext w w') : Asked w' lo hi ss sg ea := ⟨h.box, h.steps.ext hx, h.len, h.small, hx.cell h.err⟩
theorem Asked.grow {w : World} {lo hi : T3} {ss : List S4} {sg : Nat} {ea : Addr} (h : Asked w lo hi ss sg ea) (scap : Nat) :
    Calls Tryd.prog 28 #[itc lo, itc hi, .slice (some ⟨sg, 0, none⟩) ss.length scap] w (GrowSays w lo hi ss) := grow_any w h.box h.steps h.len h.small h.err
theorem fin_box {p q : T3} (h : p.1.natAbs ≤ 65536 ∧ p.2.1.natAbs ≤ 65536 ∧ q.1.natAbs ≤ 65536 ∧ q.2.1.natAbs ≤ 65536) : FinB (I p.1, I p.2.1, I q.1, I q.2.1) := ⟨(bd_I _ h.1).1, (bd_I _ h.2.1).1, (bd_I _ h.2.2.1).1, (bd_I _ h.2.2.2).1⟩
theorem nds_len {t : Tr} {lo hi : T3} {ss : List S4} {i : Nat} (h : (its t).Perm (plst lo hi ss i)) (hle : i ≤ 65536) : (nds t).length ≤ 1048576 := by
  have h1 := h.length_eq
  have h2 := plst_len lo hi ss i
  rw [its, List.length_map] at h1
  omega

theorem part_len {us ls : List T3} {f : T3 → Bool} {n : Nat} (h : us.Perm (ls.filter f)) (h1 : ls.length ≤ n) (h2 : n ≤ 65536) : us.length ≤ 1048576 := by
  have := h.length_eq
  have := List.length_filter_le f ls
  omega
/-- A list of items that has just those of a list, in some order. -/
def PermSays (ls : List T3) (w : World) (e : Ending) (w' : World) : Prop := ∃ us, us.Perm ls ∧ ItemSays us w e w'
theorem in_perm {t : Tr} {ls us : List T3} {f : T3 → Bool} {p q : T3} (hb : p.1.natAbs ≤ 65536 ∧ p.2.1.natAbs ≤ 65536 ∧ q.1.natAbs ≤ 65536 ∧ q.2.1.natAbs ≤ 65536) (ht : (its t).Perm ls) (hu : us.Perm ((its t).filter fun x => f x && !outB x (I p.1, I p.2.1, I q.1, I q.2.1))) : us.Perm (ls.filter fun x => f x && inb p q x) := by
  have e : (fun x => f x && !outB x (I p.1, I p.2.1, I q.1, I q.2.1)) = (fun x => f x && inb p q x) := by
    funext x; rw [inb_out p q x hb, Bool.not_not]
  rw [e] at hu
  exact hu.trans (ht.filter _)

set_option maxRecDepth 8000 in
set_option maxHeartbeats 3200000 in
theorem impl_inbound {lo hi p q : T3} {ss : List S4} {sg : Nat} {ea : Addr} (scap : Nat) (w : World) (h : Asked w lo hi ss sg ea) (hb : p.1.natAbs ≤ 65536 ∧ p.2.1.natAbs ≤ 65536 ∧ q.1.natAbs ≤ 65536 ∧ q.2.1.natAbs ≤ 65536) :
    Calls Tryd.prog 14 #[.agg #[.int .i64 lo.1, .int .i64 lo.2.1, .int .i64 lo.2.2], .agg #[.int .i64 hi.1, .int .i64 hi.2.1, .int .i64 hi.2.2], .slice (some ⟨sg, 0, none⟩) ss.length scap, .agg #[.int .i64 p.1, .int .i64 p.2.1, .int .i64 p.2.2], .agg #[.int .i64 q.1, .int .i64 q.2.1, .int .i64 q.2.2]] w
      (PermSays ((plst lo hi ss ss.length).filter fun x => (fun _ : T3 => true) x && inb p q x) w) := by
  have H := Lib.hid h; have HB := Lib.hid hb
  clear h hb
  go_enter Tryd.func14, Tryd.ntmps14
  go_wp2_with fail
  have X1 := Lib.hid (show Ext w ((((w.alloc (.cells #[.int .i64 lo.1, .int .i64 lo.2.1, .int .i64 lo.2.2] 25)).alloc (.cells #[.int .i64 hi.1, .int .i64 hi.2.1, .int .i64 hi.2.2] 25)).alloc (.cells #[.int .i64 p.1, .int .i64 p.2.1, .int .i64 p.2.2] 25)).alloc (.cells #[.int .i64 q.1, .int .i64 q.2.1, .int .i64 q.2.2] 25)) from (((((Ext.refl w).alloc _).alloc _).alloc _).alloc _))
  have BP := Lib.hid (show (((((w.alloc (.cells #[.int .i64 lo.1, .int .i64 lo.2.1, .int .i64 lo.2.2] 25)).alloc (.cells #[.int .i64 hi.1, .int .i64 hi.2.1, .int .i64 hi.2.2] 25)).alloc (.cells #[.int .i64 p.1, .int .i64 p.2.1, .int .i64 p.2.2] 25)).alloc (.cells #[.int .i64 q.1, .int .i64 q.2.1, .int .i64 q.2.2] 25))).heap[w.heap.size + 2]? = some (.cells #[.int .i64 p.1, .int .i64 p.2.1, .int .i64 p.2.2] 25 (0, 0)) from by
    refine blk_old ?_ _
    have := blk_new ((w.alloc (.cells #[.int .i64 lo.1, .int .i64 lo.2.1, .int .i64 lo.2.2] 25)).alloc (.cells #[.int .i64 hi.1, .int .i64 hi.2.1, .int .i64 hi.2.2] 25)) (.cells #[.int .i64 p.1, .int .i64 p.2.1, .int .i64 p.2.2] 25)
    simpa using this)
  have BQ := Lib.hid (show (((((w.alloc (.cells #[.int .i64 lo.1, .int .i64 lo.2.1, .int .i64 lo.2.2] 25)).alloc (.cells #[.int .i64 hi.1, .int .i64 hi.2.1, .int .i64 hi.2.2] 25)).alloc (.cells #[.int .i64 p.1, .int .i64 p.2.1, .int .i64 p.2.2] 25)).alloc (.cells #[.int .i64 q.1, .int .i64 q.2.1, .int .i64 q.2.2] 25))).heap[w.heap.size + 3]? = some (.cells #[.int .i64 q.1, .int .i64 q.2.1, .int .i64 q.2.2] 25 (0, 0)) from by
    have := blk_new (((w.alloc (.cells #[.int .i64 lo.1, .int .i64 lo.2.1, .int .i64 lo.2.2] 25)).alloc (.cells #[.int .i64 hi.1, .int .i64 hi.2.1, .int .i64 hi.2.2] 25)).alloc (.cells #[.int .i64 p.1, .int .i64 p.2.1, .int .i64 p.2.2] 25)) (.cells #[.int .i64 q.1, .int .i64 q.2.1, .int .i64 q.2.2] 25)
    simpa using this)
  generalize ((((w.alloc (.cells #[.int .i64 lo.1, .int .i64 lo.2.1, .int .i64 lo.2.2] 25)).alloc (.cells #[.int .i64 hi.1, .int .i64 hi.2.1, .int .i64 hi.2.2] 25)).alloc (.cells #[.int .i64 p.1, .int .i64 p.2.1, .int .i64 p.2.2] 25)).alloc (.cells #[.int .i64 q.1, .int .i64 q.2.1, .int .i64 q.2.2] 25)) = w1 at *
  refine ((H.out.ext X1.out).grow scap).mono ?_
  rintro e w2 ⟨tq, t, g, cap, rfl, hT, hp, hown, hx⟩
  have HT := Lib.hid hT; have HP := Lib.hid hp; have X2 := Lib.hid (X1.out.trans hx)
  have BP2 := Lib.hid (Ext.blk hx BP.out); have BQ2 := Lib.hid (Ext.blk hx BQ.out)
  clear hT hp hown hx BP BQ
  go_wp2_with fail
  have L1 := fun e : Later w2 => cell_of_blk (Ext.blk e.h BP2.out)
  have L2 := fun e : Later w2 => cell_of_blk (Ext.blk e.h BQ2.out)
  have PT := Lib.hid (fun x y n W => point_any x y n W)
  refine region_ext_tail 6 (by kernel_rfl) (by kernel_rfl) (fun hc => ?_)
  simp only [List.take_succ_cons, List.take_zero, List.drop_succ_cons, List.drop_zero]
  repeat (go_big_quiet_step (exact Calls.later (PT.out _ _ _ _)))
  refine wpQuiet_nil ?_
  rintro w3 ⟨⟨_, hw3⟩, rfl⟩
  have X3 := Lib.hid (X2.out.trans hw3)
  have T3' := Lib.hid (HT.out.ext hw3)
  clear L1 L2 hc PT hw3 BP2 BQ2 HT X2
  go_wp2_with fail
  refine (inbound_top (bx := (I p.1, I p.2.1, I q.1, I q.2.1)) T3'.out (fin_box HB.out) (nds_len HP.out H.out.len)).mono ?_
  rintro e w4 ⟨sv, us, rfl, hown, hperm, hx4⟩
  have HO := Lib.hid hown; have HPM := Lib.hid (in_perm HB.out HP.out hperm); have X4 := Lib.hid (X3.out.trans hx4)
  clear hown hperm hx4
  go_wp2_with fail
  refine (items_any sv us _ w4 HO.out (part_len HPM.out (plst_len lo hi ss ss.length) H.out.len)).mono ?_
  rintro e w5 ⟨g5, c5, rfl, hown5, hx5⟩
  have FIN := Lib.hid (show PermSays ((plst lo hi ss ss.length).filter fun x => (fun _ : T3 => true) x && inb p q x) w (.returned (.slice (some ⟨g5, 0, none⟩) us.length c5)) w5 from ⟨us, HPM.out, g5, c5, rfl, own_mono hown5 X4.out.size, X4.out.trans hx5⟩)
  clear hown5 hx5
  go_wp2_with fail
  go_ret
  exact FIN.out

set_option maxRecDepth 8000 in
set_option maxHeartbeats 3200000 in
theorem impl_inboundeven {lo hi p q : T3} {ss : List S4} {sg : Nat} {ea : Addr} (scap : Nat) (w : World) (h : Asked w lo hi ss sg ea) (hb : p.1.natAbs ≤ 65536 ∧ p.2.1.natAbs ≤ 65536 ∧ q.1.natAbs ≤ 65536 ∧ q.2.1.natAbs ≤ 65536) :
    Calls Tryd.prog 26 #[.agg #[.int .i64 lo.1, .int .i64 lo.2.1, .int .i64 lo.2.2], .agg #[.int .i64 hi.1, .int .i64 hi.2.1, .int .i64 hi.2.2], .slice (some ⟨sg, 0, none⟩) ss.length scap, .agg #[.int .i64 p.1, .int .i64 p.2.1, .int .i64 p.2.2], .agg #[.int .i64 q.1, .int .i64 q.2.1, .int .i64 q.2.2]] w
      (PermSays ((plst lo hi ss ss.length).filter fun x => evn x && inb p q x) w) := by
  have H := Lib.hid h; have HB := Lib.hid hb
  clear h hb
  go_enter Tryd.func26, Tryd.ntmps26
  go_wp2_with fail
  have X1 := Lib.hid (show Ext w ((((w.alloc (.cells #[.int .i64 lo.1, .int .i64 lo.2.1, .int .i64 lo.2.2] 25)).alloc (.cells #[.int .i64 hi.1, .int .i64 hi.2.1, .int .i64 hi.2.2] 25)).alloc (.cells #[.int .i64 p.1, .int .i64 p.2.1, .int .i64 p.2.2] 25)).alloc (.cells #[.int .i64 q.1, .int .i64 q.2.1, .int .i64 q.2.2] 25)) from (((((Ext.refl w).alloc _).alloc _).alloc _).alloc _))
  have BP := Lib.hid (show (((((w.alloc (.cells #[.int .i64 lo.1, .int .i64 lo.2.1, .int .i64 lo.2.2] 25)).alloc (.cells #[.int .i64 hi.1, .int .i64 hi.2.1, .int .i64 hi.2.2] 25)).alloc (.cells #[.int .i64 p.1, .int .i64 p.2.1, .int .i64 p.2.2] 25)).alloc (.cells #[.int .i64 q.1, .int .i64 q.2.1, .int .i64 q.2.2] 25))).heap[w.heap.size + 2]? = some (.cells #[.int .i64 p.1, .int .i64 p.2.1, .int .i64 p.2.2] 25 (0, 0)) from by
    refine blk_old ?_ _
    have := blk_new ((w.alloc (.cells #[.int .i64 lo.1, .int .i64 lo.2.1, .int .i64 lo.2.2] 25)).alloc (.cells #[.int .i64 hi.1, .int .i64 hi.2.1, .int .i64 hi.2.2] 25)) (.cells #[.int .i64 p.1, .int .i64 p.2.1, .int .i64 p.2.2] 25)
    simpa using this)
  have BQ := Lib.hid (show (((((w.alloc (.cells #[.int .i64 lo.1, .int .i64 lo.2.1, .int .i64 lo.2.2] 25)).alloc (.cells #[.int .i64 hi.1, .int .i64 hi.2.1, .int .i64 hi.2.2] 25)).alloc (.cells #[.int .i64 p.1, .int .i64 p.2.1, .int .i64 p.2.2] 25)).alloc (.cells #[.int .i64 q.1, .int .i64 q.2.1, .int .i64 q.2.2] 25))).heap[w.heap.size + 3]? = some (.cells #[.int .i64 q.1, .int .i64 q.2.1, .int .i64 q.2.2] 25 (0, 0)) from by
    have := blk_new (((w.alloc (.cells #[.int .i64 lo.1, .int .i64 lo.2.1, .int .i64 lo.2.2] 25)).alloc (.cells #[.int .i64 hi.1, .int .i64 hi.2.1, .int .i64 hi.2.2] 25)).alloc (.cells #[.int .i64 p.1, .int .i64 p.2.1, .int .i64 p.2.2] 25)) (.cells #[.int .i64 q.1, .int .i64 q.2.1, .int .i64 q.2.2] 25)
    simpa using this)
  generalize ((((w.alloc (.cells #[.int .i64 lo.1, .int .i64 lo.2.1, .int .i64 lo.2.2] 25)).alloc (.cells #[.int .i64 hi.1, .int .i64 hi.2.1, .int .i64 hi.2.2] 25)).alloc (.cells #[.int .i64 p.1, .int .i64 p.2.1, .int .i64 p.2.2] 25)).alloc (.cells #[.int .i64 q.1, .int .i64 q.2.1, .int .i64 q.2.2] 25)) = w1 at *
  refine ((H.out.ext X1.out).grow scap).mono ?_
  rintro e w2 ⟨tq, t, g, cap, rfl, hT, hp, hown, hx⟩
  have HT := Lib.hid hT; have HP := Lib.hid hp; have X2 := Lib.hid (X1.out.trans hx)
  have BP2 := Lib.hid (Ext.blk hx BP.out); have BQ2 := Lib.hid (Ext.blk hx BQ.out)
  clear hT hp hown hx BP BQ
  go_wp2_with fail
  have L1 := fun e : Later w2 => cell_of_blk (Ext.blk e.h BP2.out)
  have L2 := fun e : Later w2 => cell_of_blk (Ext.blk e.h BQ2.out)
  have PT := Lib.hid (fun x y n W => point_any x y n W)
  refine region_ext_tail 6 (by kernel_rfl) (by kernel_rfl) (fun hc => ?_)
  simp only [List.take_succ_cons, List.take_zero, List.drop_succ_cons, List.drop_zero]
  repeat (go_big_quiet_step (exact Calls.later (PT.out _ _ _ _)))
  refine wpQuiet_nil ?_
  rintro w3 ⟨⟨_, hw3⟩, rfl⟩
  have X3 := Lib.hid (X2.out.trans hw3)
  have T3' := Lib.hid (HT.out.ext hw3)
  clear L1 L2 hc PT hw3 BP2 BQ2 HT X2
  go_wp2_with fail
  refine (inmatch_top (bx := (I p.1, I p.2.1, I q.1, I q.2.1)) (f := evn) (Q := fun _ => True) T3'.out fil_even trivial (fun _ _ _ _ => trivial) (fin_box HB.out) (nds_len HP.out H.out.len)).mono ?_
  rintro e w4 ⟨sv, us, rfl, hown, hperm, hx4⟩
  have HO := Lib.hid hown; have HPM := Lib.hid (in_perm HB.out HP.out hperm); have X4 := Lib.hid (X3.out.trans hx4)
  clear hown hperm hx4
  go_wp2_with fail
  refine (items_any sv us _ w4 HO.out (part_len HPM.out (plst_len lo hi ss ss.length) H.out.len)).mono ?_
  rintro e w5 ⟨g5, c5, rfl, hown5, hx5⟩
  have FIN := Lib.hid (show PermSays ((plst lo hi ss ss.length).filter fun x => evn x && inb p q x) w (.returned (.slice (some ⟨g5, 0, none⟩) us.length c5)) w5 from ⟨us, HPM.out, g5, c5, rfl, own_mono hown5 X4.out.size, X4.out.trans hx5⟩)
  clear hown5 hx5
  go_wp2_with fail
  go_ret
  exact FIN.out

end Go.Proofs.YtmmmknmncdlopaaDoor
