/- The visitor of InBound: what it keeps, and one node. -/
import Derived.Test.YtmmmknmncdlopaaDoorQuadK
import Derived.OwnWalk
import Derived.Deep.AppendLies
import Derived.Deep.RegionLaw
namespace Go.Proofs.YtmmmknmncdlopaaDoor
open Go.ChangeShapes Go.WideShapes Go.ChangeAt Go.RowKit
open Go.Proofs.YtmmmknmncdlopaaDoor.F

theorem lt_val {x y : Nat} {v w : Int} (hx : IsF x v) (hy : IsF y w) : (FloatKind.f64.format.order x y == some .lt) = decide (v < w) := by
  rw [ord_fact hx hy]
  rcases tri v w with ⟨o, h, ⟨rfl, h2⟩ | ⟨rfl, h2⟩ | ⟨rfl, h2⟩⟩ <;> rw [h]
  · rw [decide_eq_true h2]; rfl
  · rw [decide_eq_false (by rw [h2]; exact Int.lt_irrefl _)]; rfl
  · rw [decide_eq_false (fun h => by exact Int.lt_irrefl _ (Int.lt_trans h h2))]; rfl
theorem gt_val {x y : Nat} {v w : Int} (hx : IsF x v) (hy : IsF y w) : (FloatKind.f64.format.order x y == some .gt) = decide (w < v) := by
  rw [ord_fact hx hy]
  rcases tri v w with ⟨o, h, ⟨rfl, h2⟩ | ⟨rfl, h2⟩ | ⟨rfl, h2⟩⟩ <;> rw [h]
  · rw [decide_eq_false (fun h => by exact Int.lt_irrefl _ (Int.lt_trans h h2))]; rfl
  · rw [decide_eq_false (by rw [h2]; exact Int.lt_irrefl _)]; rfl
  · rw [decide_eq_true h2]; rfl

/-- Whether an item lies outside a box. -/
def outB (p : T3) (b : B4) : Bool := decide (p.1 * U < val b.1) || (decide (val b.2.2.1 < p.1 * U) || (decide (p.2.1 * U < val b.2.1) || decide (val b.2.2.2 < p.2.1 * U)))
theorem outB_of {p : T3} {b : B4} (h : OutB p b) : outB p b = true := by
  unfold outB
  simp only [Bool.or_eq_true, decide_eq_true_eq]
  rcases h with h | h | h | h
  · exact .inr (.inl h)
  · exact .inl h
  · exact .inr (.inr (.inr h))
  · exact .inr (.inr (.inl h))
/-- What is found of the nodes L. -/
def found (f : T3 → Bool) (b : B4) (L : List (Nat × T3)) : List T3 := (L.map (·.2)).filter fun x => f x && !outB x b
/-- Items as cells. -/
def ivs (us : List T3) : List Value := us.map fun x => iv (some x)
theorem ivs_append (a b : List T3) : ivs (a ++ b) = ivs a ++ ivs b := List.map_append
theorem ivs_len (a : List T3) : (ivs a).length = a.length := List.length_map _

structure InbP (a v kb B R : Nat) (fv : Value) (f : T3 → Bool) (Q : World → Prop) (b : B4) (w : World) (L : List (Nat × T3)) (sv : Value) (us : List T3) : Prop where
  hv : w.heap[v]? = some (.cells #[.iface 106 (pt a)] 122 (0, 0))
  ha : w.heap[a]? = some (.cells #[pt kb, sv, fv] 108 (0, 0))
  hk : w.heap[kb]? = some (.cells #[fl b.1, fl b.2.1, fl b.2.2.1, fl b.2.2.2] 67 (0, 0))
  q : Q w
  size : R ≤ w.heap.size
  fin : FinB b
  own : w.ownsRow R 77 1 sv us.length (ivs us)
  inv : us.Perm (found f b L)

theorem kept_ext {a b : World} (h : Ext a b) {base : Nat} {e : TypeId} {sz n : Nat} {v : Value} {xs : List Value} (ho : a.ownsRow base e sz v n xs) : b.ownsRow base e sz v n xs :=
  ho.kept (row := none) ⟨h.os, h.tape, h.output, h.size, fun i hi _ => h.block i hi⟩ (by cases hv : v.ownBlock <;> simp)

section
variable {a v kb B R : Nat} {fv : Value} {f : T3 → Bool} {Q : World → Prop} {b : B4} {w w' : World} {L L' : List (Nat × T3)} {sv : Value} {us : List T3}
theorem InbP.ext (h : InbP a v kb B R fv f Q b w L sv us) (hR : B ≤ R) (hQ : ∀ w w', Q w → Below B w w' → Q w') (hx : Ext w w') : InbP a v kb B R fv f Q b w' L sv us :=
  ⟨Ext.blk hx h.hv, Ext.blk hx h.ha, Ext.blk hx h.hk, hQ _ _ h.q (Below.mono hx (Nat.le_trans hR h.size)), Nat.le_trans h.size hx.size, h.fin, kept_ext hx h.own, h.inv⟩
theorem InbP.with (h : InbP a v kb B R fv f Q b w L sv us) (hi : us.Perm (found f b L')) : InbP a v kb B R fv f Q b w L' sv us :=
  ⟨h.hv, h.ha, h.hk, h.q, h.size, h.fin, h.own, hi⟩
theorem InbP.skip (h : InbP a v kb B R fv f Q b w L sv us) (k : Nat) (p : T3) (hp : (f p && !outB p b) = false) : InbP a v kb B R fv f Q b w ((k, p) :: L) sv us :=
  h.with (by unfold found; rw [List.map_cons, List.filter_cons_of_neg (by simpa using hp)]; exact h.inv)
theorem InbP.box (h : InbP a v kb B R fv f Q b w L sv us) (n : List (Nat × T3)) (hn : ∀ p ∈ n, Sm p.2 ∧ OutB p.2 b) : InbP a v kb B R fv f Q b w (n ++ L) sv us :=
  h.with (by
    unfold found
    rw [List.map_append, List.filter_append, List.filter_eq_nil_iff.2, List.nil_append]
    · exact h.inv
    · intro x hx
      obtain ⟨q, hq, rfl⟩ := List.mem_map.1 hx
      simp [outB_of (hn q hq).2])
theorem InbP.perm (h : InbP a v kb B R fv f Q b w L sv us) (hp : L.Perm L') : InbP a v kb B R fv f Q b w L' sv us :=
  h.with (h.inv.trans ((hp.map _).filter _))
end

theorem InbP.push {a v kb B R : Nat} {fv : Value} {f : T3 → Bool} {Q : World → Prop} {b : B4} {w w6 : World} {L : List (Nat × T3)} {sv : Value} {us : List T3} (h : InbP a v kb B R fv f Q b w L sv us) (hQ : ∀ w w', Q w → Below B w w' → Q w') (hd : B ≤ a ∧ a ≠ kb ∧ v ≠ a) (hR : B ≤ R ∧ a < R ∧ kb < R ∧ v < R)
    (k : Nat) (p : T3) (hf : f p = true) (ho : outB p b = false) {g6 cap6 : Nat} {o : Obj} (hown : w6.ownsRow R 77 1 (.slice (some ⟨g6, 0, none⟩) (us.length + 1) cap6) (us.length + 1) (ivs us ++ [iv (some p)])) (hg : (w.alloc o).drew.grownBy w6 sv.ownBlock) :
    w6.heap[a]? = w.heap[a]? ∧ InbP a v kb B R fv f Q b (w6.setCell ⟨a, 1, none⟩ (.slice (some ⟨g6, 0, none⟩) (us.length + 1) cap6)) ((k, p) :: L) (.slice (some ⟨g6, 0, none⟩) (us.length + 1) cap6) (us ++ [p]) ∧ Below B w (w6.setCell ⟨a, 1, none⟩ (.slice (some ⟨g6, 0, none⟩) (us.length + 1) cap6)) := by
  have hr : ∀ j, sv.ownBlock = some j → R ≤ j := fun j hj => (h.own.lt j hj).1
  have e0 : Ext w (w.alloc o).drew := ((Ext.refl w).alloc o).drew
  have b6 : Below R w w6 := Below.grown (Below.mono e0 h.size) hg (Nat.le_trans h.size e0.size) hr
  have keep : ∀ j, j < R → w6.heap[j]? = w.heap[j]? := fun j hj => b6.block j hj
  have b7 : Below B w (w6.setCell ⟨a, 1, none⟩ (.slice (some ⟨g6, 0, none⟩) (us.length + 1) cap6)) := Below.setCell (Below.mono b6 hR.1) hd.1 _
  have s6 : R ≤ w6.heap.size := Nat.le_trans h.size b6.size
  have hag : a ≠ g6 := by have := (hown.lt g6 rfl).1; omega
  refine ⟨keep a hR.2.1, ⟨?_, ?_, ?_, hQ _ _ h.q b7, by rw [size_setCell]; exact s6, h.fin, ?_, ?_⟩, b7⟩
  · rw [blk_setCell_ne hd.2.2, keep v hR.2.2.2]; exact h.hv
  · rw [blk_setCell ((keep a hR.2.1).trans h.ha)]; rfl
  · rw [blk_setCell_ne (Ne.symm hd.2.1), keep kb hR.2.2.1]; exact h.hk
  · rw [List.length_append, ivs_append]
    exact hown.kept (row := some a) ⟨rfl, rfl, rfl, by rw [size_setCell]; exact Nat.le_refl _, fun i _ hi => blk_setCell_ne (fun e => hi (by rw [e])) _ _⟩ (.inr (by simp only [Value.ownBlock, ne_eq, Option.some.injEq]; exact fun e => hag e.symm))
  · unfold found
    rw [List.map_cons, List.filter_cons_of_pos (by simp [hf, ho])]
    exact List.perm_append_comm.trans (List.Perm.cons p h.inv)

def InbSays (a v kb B R : Nat) (fv : Value) (f : T3 → Bool) (Q : World → Prop) (b : B4) (L : List (Nat × T3)) (w : World) (e : Ending) (w' : World) : Prop :=
  e = .returned (.tuple #[]) ∧ (∃ sv us, InbP a v kb B R fv f Q b w' L sv us) ∧ Below B w w'
theorem infoP : (Tryd.prog.info? 77).map (fun i => (i.zero, i.size, i.bytes)) = some (some .nilIface, 1, 16) := by kernel_rfl

set_option maxRecDepth 8000 in
set_option maxHeartbeats 6400000 in
theorem inb_visit {a v kb B R N : Nat} {fv : Value} {f : T3 → Bool} {Q : World → Prop} {b : B4} {w : World} {L : List (Nat × T3)} {sv : Value} {us : List T3} (hF : Fil fv f Q) (hQ : ∀ w w', Q w → Below B w w' → Q w') (hd : B ≤ a ∧ a ≠ kb ∧ v ≠ a) (hR : B ≤ R ∧ a < R ∧ kb < R ∧ v < R) (hN : N ≤ 1048576) (hL : L.length < N)
    (h : InbP a v kb B R fv f Q b w L sv us) (k : Nat) (p : T3) (c0 c1 c2 c3 : Tr) (hk : k < B) (hn : w.heap[k]? = some (.cells #[iv (some p), ptr c0, ptr c1, ptr c2, ptr c3] 105 (0, 0))) (hp : Sm p) :
    Calls Tryd.prog 108 #[pt a, pt k] w (InbSays a v kb B R fv f Q b ((k, p) :: L) w) := by
  have CA := cell_of_blk h.ha
  have CN := cell_of_blk (show w.heap[k]? = some (.cells #[.iface 25 (.agg #[.int .i64 p.1, .int .i64 p.2.1, .int .i64 p.2.2]), ptr c0, ptr c1, ptr c2, ptr c3] 105 (0, 0)) from hn)
  have hul : us.length ≤ 1048576 := by
    have h1 := h.inv.length_eq
    have h2 : (found f b L).length ≤ (L.map (·.2)).length := List.length_filter_le _ _
    rw [List.length_map] at h2
    omega
  have H := Lib.hid h; have HQ := Lib.hid hQ; have HP := Lib.hid hp; have HN := Lib.hid hn; have HR := Lib.hid hR; have HUL := Lib.hid hul
  have hka : k ≠ a := by omega
  have HD := Lib.hid hd
  clear hd h hQ hp hn hul hL hN
  have HFL := Lib.hid hF; clear hF
  go_enter Tryd.func108, Tryd.ntmps108
  go_wp2_with fail
  go_cut [21] from 5 (fun s wx => s = .bool (!f p) ∧ Ext w wx)
  case first =>
    have L1 := fun e : Later w => cell_of_blk (Ext.blk e.h H.out.ha)
    have L2 := fun e : Later w => cell_of_blk (Ext.blk e.h (show w.heap[k]? = some (.cells #[.iface 25 (.agg #[.int .i64 p.1, .int .i64 p.2.1, .int .i64 p.2.2]), ptr c0, ptr c1, ptr c2, ptr c3] 105 (0, 0)) from HN.out))
    rcases HFL.out with ⟨rfl, hf⟩ | ⟨F, rfl, eF, hf⟩ | ⟨F, cc, rfl, eF, hf⟩
    · have HF := Lib.hid hf; clear hf
      have nf := nf_run
      refine region_ext (by kernel_rfl) (by kernel_rfl) (fun hc => ?_)
      repeat (go_big_quiet_step (fail))
      refine wpQuiet_nil ?_
      rintro w3 ⟨⟨_, hw3⟩, rfl⟩
      clear L1 L2 hc
      go_wp2_with fail
      go_meet
      exact ⟨by rw [HF.out]; rfl, hw3⟩
    · have HF := Lib.hid (show ∀ e : Later w, Calls Tryd.prog F #[.iface 25 (.agg #[.int .i64 p.1, .int .i64 p.2.1, .int .i64 p.2.2])] e.w fun r w' => r = .returned (.bool (f p)) ∧ Ext e.w w' from fun e => hf e.w p (HQ.out _ _ H.out.q (Below.mono e.h (Nat.le_trans HR.out.1 H.out.size))))
      clear hf
      have nf := fn_run F #[]
      refine region_ext (by kernel_rfl) (by kernel_rfl) (fun hc => ?_)
      repeat (go_big_quiet_step (exact Calls.later (HF.out _)))
      refine wpQuiet_nil ?_
      rintro w3 ⟨⟨_, hw3⟩, rfl⟩
      clear L1 L2 hc
      go_wp2_with fail
      go_meet
      exact ⟨rfl, hw3⟩
    · have HF := Lib.hid (show ∀ e : Later w, Calls Tryd.prog F #[.iface 25 (.agg #[.int .i64 p.1, .int .i64 p.2.1, .int .i64 p.2.2]), cc] e.w fun r w' => r = .returned (.bool (f p)) ∧ Ext e.w w' from fun e => hf e.w p (HQ.out _ _ H.out.q (Below.mono e.h (Nat.le_trans HR.out.1 H.out.size))))
      clear hf
      have nf := fn_run F #[cc]
      refine region_ext (by kernel_rfl) (by kernel_rfl) (fun hc => ?_)
      repeat (go_big_quiet_step (exact Calls.later (HF.out _)))
      refine wpQuiet_nil ?_
      rintro w3 ⟨⟨_, hw3⟩, rfl⟩
      clear L1 L2 hc
      go_wp2_with fail
      go_meet
      exact ⟨rfl, hw3⟩
  case rest =>
    obtain ⟨rfl, hx1⟩ := hcut
    have H1 := Lib.hid (H.out.ext HR.out.1 HQ.out hx1)
    have HB1 := Lib.hid (Below.mono hx1 (Nat.le_trans HR.out.1 H.out.size))
    have HN1 := Lib.hid (Ext.blk hx1 HN.out)
    clear hx1 CA CN H HN HFL
    by_cases hf : f p = true
    · have HF := Lib.hid hf
      rw [hf]
      clear hf
      have i1 := item_n p; have i2 := item_m p
      have CA := cell_of_blk H1.out.ha
      have CN := cell_of_blk (show wc.heap[k]? = some (.cells #[.iface 25 (.agg #[.int .i64 p.1, .int .i64 p.2.1, .int .i64 p.2.2]), ptr c0, ptr c1, ptr c2, ptr c3] 105 (0, 0)) from HN1.out)
      go_wp2_with fail
      refine (point_any _ _ _ wc).mono ?_
      rintro e w2 ⟨rfl, hx2⟩
      have H2 := Lib.hid (H1.out.ext HR.out.1 HQ.out (hx2.alloc (.cells #[fl (I p.1), fl (I p.2.1)] 64)))
      have HB2 := Lib.hid (HB1.out.trans (Below.mono (hx2.alloc (.cells #[fl (I p.1), fl (I p.2.1)] 64)) (Nat.le_trans HR.out.1 H1.out.size)))
      have HN2 := Lib.hid (Ext.blk (hx2.alloc (.cells #[fl (I p.1), fl (I p.2.1)] 64)) HN1.out)
      have BP := Lib.hid (blk_new w2 (.cells #[fl (I p.1), fl (I p.2.1)] 64))
      have hq : a < w2.heap.size := Nat.lt_of_lt_of_le (Array.getElem?_eq_some_iff.1 H1.out.ha).1 hx2.size
      have HQ2 := Lib.hid hq
      have st := st_fl
      clear hx2 hq CA CN i1 i2 H1 HB1 HN1
      go_wp2_with fail
      generalize (w2.alloc (.cells #[fl (I p.1), fl (I p.2.1)] 64)) = wb at *
      have P1 := I_F p.1 (by have := HP.out.1; omega)
      have P2 := I_F p.2.1 (by have := HP.out.2; omega)
      have g1 := gt_val H2.out.fin.1 P1
      have g2 := lt_val H2.out.fin.2.2.1 P1
      have g3 := gt_val H2.out.fin.2.1 P2
      have g4 := lt_val H2.out.fin.2.2.2 P2
      go_cut [76] from 77 (fun s wx => s = .bool (outB p b) ∧ Ext wb wx)
      case first =>
        have L1 := fun e : Later wb => cell_of_blk (Ext.blk e.h H2.out.ha)
        have L2 := fun e : Later wb => cell_of_blk (Ext.blk e.h BP.out)
        have L3 := fun e : Later wb => cell_of_blk (Ext.blk e.h H2.out.hk)
        have HO := Lib.hid (show outB p b = (decide (p.1 * U < val b.1) || (decide (val b.2.2.1 < p.1 * U) || (decide (p.2.1 * U < val b.2.1) || decide (val b.2.2.2 < p.2.1 * U)))) from rfl)
        generalize decide (p.1 * U < val b.1) = t1 at *
        generalize decide (val b.2.2.1 < p.1 * U) = t2 at *
        generalize decide (p.2.1 * U < val b.2.1) = t3 at *
        generalize decide (val b.2.2.2 < p.2.1 * U) = t4 at *
        clear P1 P2
        cases t1
        cases t2
        cases t3
        cases t4
        all_goals
          refine region_ext (by kernel_rfl) (by kernel_rfl) (fun hc => ?_)
          repeat (go_big_quiet_step (fail))
          refine wpQuiet_nil ?_
          rintro w3 ⟨⟨_, hw3⟩, rfl⟩
          clear L1 L2 L3 hc
          go_wp2_with fail
          go_meet
          exact ⟨by rw [HO.out]; rfl, hw3⟩
      case rest =>
        obtain ⟨rfl, hx3⟩ := hcut
        have H3 := Lib.hid (H2.out.ext HR.out.1 HQ.out hx3)
        have HB3 := Lib.hid (HB2.out.trans (Below.mono hx3 (Nat.le_trans HR.out.1 H2.out.size)))
        have HN3 := Lib.hid (Ext.blk hx3 HN2.out)
        clear hx3 H2 HB2 HN2 g1 g2 g3 g4 P1 P2 BP HQ2
        by_cases ho : outB p b = true
        · have FIN := Lib.hid (show InbSays a v kb B R fv f Q b ((k, p) :: L) w (.returned (.tuple #[])) wc from ⟨rfl, ⟨sv, us, H3.out.skip k p (by rw [ho]; simp)⟩, HB3.out⟩)
          rw [ho]
          clear ho
          go_wp2_with fail
          exact bodyPost_ret (v := .tuple #[]) (by simp [results, Tryd.results108, go_sem]) rfl FIN.out
        · rw [Bool.not_eq_true] at ho
          have HO := Lib.hid ho
          rw [ho]
          clear ho
          have CA := cell_of_blk H3.out.ha
          have CN := cell_of_blk (show wc.heap[k]? = some (.cells #[.iface 25 (.agg #[.int .i64 p.1, .int .i64 p.2.1, .int .i64 p.2.2]), ptr c0, ptr c1, ptr c2, ptr c3] 105 (0, 0)) from HN3.out)
          have FA := free_of_blk H3.out.ha
          have hwa : a < wc.heap.size := (Array.getElem?_eq_some_iff.1 H3.out.ha).1
          have hwk : k < wc.heap.size := (Array.getElem?_eq_some_iff.1 HN3.out).1
          obtain ⟨i0, hi0, hz0, hz1, hz2⟩ := info_parts infoP
          have INF := Lib.hid (show Tryd.prog.info? 77 = some i0 ∧ i0.zero = some .nilIface ∧ i0.size = 1 ∧ i0.bytes = 16 from ⟨hi0, hz0, hz1, hz2⟩)
          clear hi0 hz0 hz1 hz2
          go_wp2_with fail
          go_region_law (first
            | (refine step_append_lies _ rfl (.tmp 81) (.tmp 86) 60 rfl R 77 i0 .nilIface 1 16 Tryd.underlying60 INF.out.1 INF.out.2.1 INF.out.2.2.1 INF.out.2.2.2 rfl (by decide) sv us.length (ivs us) (by rfl) (kept_ext (((Ext.refl wc).drew).alloc _) H3.out.own)
                 ⟨wc.heap.size, 0, none⟩ 1 1 [iv (some p)] (by rfl) (by rfl) (World.news_of_block (cs := #[iv (some p)]) (t := 77) (fr := (0, 0)) (heap_alloc_new wc.drew _)) (by simp [iv, Value.oneCell'])
                 (by omega) (by have := HUL.out; simp only [maxLen]; omega) (by have := HUL.out; omega) (by have := H3.out.size; simp; omega) (wc.heap.size + 1) (by simp) ?_
               intro g6 cap6 w6 hown6 hgrow6 hat6 hlt6
               have H6 := Lib.hid (H3.out.push HQ.out HD.out HR.out k p HF.out HO.out hown6 hgrow6)
               have C6 := cell_of_blk (H6.out.1.trans H3.out.ha)
               have F6 := free_of_blk (H6.out.1.trans H3.out.ha)
               clear hown6 hgrow6 hat6))
          all_goals
            go_wp2_with fail
            exact bodyPost_ret (v := .tuple #[]) (by simp [results, Tryd.results108, go_sem]) rfl ⟨rfl, ⟨_, _, H6.out.2.1⟩, HB3.out.trans H6.out.2.2⟩
    · rw [Bool.not_eq_true] at hf
      have FIN := Lib.hid (show InbSays a v kb B R fv f Q b ((k, p) :: L) w (.returned (.tuple #[])) wc from ⟨rfl, ⟨sv, us, H1.out.skip k p (by rw [hf]; rfl)⟩, HB1.out⟩)
      rw [hf]
      clear hf
      go_wp2_with fail
      exact bodyPost_ret (v := .tuple #[]) (by simp [results, Tryd.results108, go_sem]) rfl FIN.out

end Go.Proofs.YtmmmknmncdlopaaDoor
