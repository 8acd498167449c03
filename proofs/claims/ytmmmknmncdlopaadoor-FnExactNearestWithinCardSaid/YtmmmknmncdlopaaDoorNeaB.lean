/- The visitor of KNearest: one node. Conditions: how it lies; small coordinates. -/
import Derived.Test.YtmmmknmncdlopaaDoorNeaA
namespace Go.Proofs.YtmmmknmncdlopaaDoor
open Go.ChangeShapes Go.WideShapes Go.ChangeAt Go.RowKit
open Go.Proofs.YtmmmknmncdlopaaDoor.F

/-- How the visitor of KNearest lies. -/
structure NeaL (a v kb g B R k : Nat) (w0 : World) (px py : Nat) (w : World) (n : Nat) (m : Value) (b : B4) (xs : List Value) : Prop where
  hv : w.heap[v]? = some (.cells #[.iface 112 (pt a)] 122 (0, 0))
  ha : w.heap[a]? = some (.cells #[fl px, fl py, .nilFunc, .int .i64 (k : Nat), .slice (some ⟨g, 0, none⟩) n (k + 1), pt kb, m] 116 (0, 0))
  hk : w.heap[kb]? = some (.cells #[fl b.1, fl b.2.1, fl b.2.2.1, fl b.2.2.2] 67 (0, 0))
  own : w.ownsRow R 118 2 (.slice (some ⟨g, 0, none⟩) n (k + 1)) n xs
  size : B ≤ w.heap.size
  below : Below B w0 w
/-- Where its blocks are. -/
structure NeaD (a v kb g B : Nat) : Prop where
  ba : B ≤ a
  bk : B ≤ kb
  bg : B ≤ g
  ak : a ≠ kb
  ag : a ≠ g
  kg : kb ≠ g
  va : v ≠ a
  vk : v ≠ kb
  vg : v ≠ g
section
variable {a v kb g B R k : Nat} {w0 : World} {px py : Nat} {w w' : World} {n : Nat} {m : Value} {b : B4} {xs : List Value}
theorem NeaL.ext (h : NeaL a v kb g B R k w0 px py w n m b xs) (hx : Ext w w') : NeaL a v kb g B R k w0 px py w' n m b xs :=
  ⟨Ext.blk hx h.hv, Ext.blk hx h.ha, Ext.blk hx h.hk, kept_ext hx h.own, Nat.le_trans h.size hx.size, h.below.trans (Below.mono hx h.size)⟩
theorem NeaL.self (h : NeaL a v kb g B R k w0 px py w n m b xs) : NeaL a v kb g B R k w px py w n m b xs := ⟨h.hv, h.ha, h.hk, h.own, h.size, Below.refl _ _⟩
theorem NeaL.hl (h : NeaL a v kb g B R k w0 px py w n m b xs) (hd : NeaD a v kb g B) : HL R w w a g (k + 1) n (fl px) (fl py) .nilFunc (.int .i64 (k : Nat)) (pt kb) m xs :=
  ⟨h.ha, h.own, hd.ag, Mod.of_ext (Ext.refl _)⟩
theorem NeaL.of_hl (h : NeaL a v kb g B R k w0 px py w n m b xs) (hd : NeaD a v kb g B) {n' : Nat} {xs' : List Value} (hl : HL R w w' a g (k + 1) n' (fl px) (fl py) .nilFunc (.int .i64 (k : Nat)) (pt kb) m xs') : NeaL a v kb g B R k w0 px py w' n' m b xs' := by
  have hv := (Array.getElem?_eq_some_iff.1 h.hv).1
  have hk := (Array.getElem?_eq_some_iff.1 h.hk).1
  have bm := hl.mod.below (B := B) h.size (fun j hj => by
    simp only [List.mem_cons, List.not_mem_nil, or_false] at hj
    rcases hj with rfl | rfl
    · exact hd.ba
    · exact hd.bg)
  refine ⟨(hl.mod.block v hv ?_).trans h.hv, hl.ha, (hl.mod.block kb hk ?_).trans h.hk, hl.own, Nat.le_trans h.size hl.mod.size, h.below.trans bm⟩
  · simp only [List.mem_cons, List.not_mem_nil, or_false, not_or]; exact ⟨hd.va, hd.vg⟩
  · simp only [List.mem_cons, List.not_mem_nil, or_false, not_or]; exact ⟨Ne.symm hd.ak, hd.kg⟩
theorem NeaL.setm (h : NeaL a v kb g B R k w0 px py w n m b xs) (hd : NeaD a v kb g B) (m' : Value) : NeaL a v kb g B R k w0 px py (w.setCell ⟨a, 6, none⟩ m') n m' b xs :=
  ⟨by rw [blk_setCell_ne hd.va]; exact h.hv, by rw [blk_setCell h.ha]; rfl, by rw [blk_setCell_ne (Ne.symm hd.ak)]; exact h.hk, own_keep h.own (blk_setCell_ne (Ne.symm hd.ag) _ _), by rw [size_setCell]; exact h.size, h.below.trans (below_set h.size _ hd.ba _)⟩
theorem NeaL.setk (h : NeaL a v kb g B R k w0 px py w n m b xs) (hd : NeaD a v kb g B) (i u : Nat) (hi : i < 4) : NeaL a v kb g B R k w0 px py (w.setCell ⟨kb, i, none⟩ (fl u)) n m (setB b i u) xs :=
  ⟨by rw [blk_setCell_ne hd.vk]; exact h.hv, by rw [blk_setCell_ne hd.ak]; exact h.ha, by rw [blk_setCell h.hk, setB_arr _ _ _ hi], own_keep h.own (blk_setCell_ne (Ne.symm hd.kg) _ _), by rw [size_setCell]; exact h.size, h.below.trans (below_set h.size _ hd.bk _)⟩
end

/-- How it lies and what it knows. -/
def NeaP (a v kb g B R k : Nat) (x y : Int) (M : Int) (mw : Nat) (b0 : B4) (w : World) (L : List (Nat × T3)) : Prop :=
  ∃ hs m b, NeaL a v kb g B R k w (I x) (I y) w hs.length (fl m) b (hcs (dw x y) hs) ∧ FinB b ∧ NeaI x y k M mw L b0 hs m b
/-- What the visit of one node leaves. -/
def NeaSays (a v kb g B R k : Nat) (x y : Int) (M : Int) (mw : Nat) (b0 : B4) (L : List (Nat × T3)) (w : World) (e : Ending) (w' : World) : Prop :=
  e = .returned (.tuple #[]) ∧ NeaP a v kb g B R k x y M mw b0 w' L ∧ Below B w w'

set_option maxRecDepth 8000 in
set_option maxHeartbeats 6400000 in
theorem nea_visit {a v kb g B R k : Nat} {x y : Int} {M : Int} {mw : Nat} {b0 : B4} {w : World} {L : List (Nat × T3)} (hx : x.natAbs ≤ 65536) (hy : y.natAbs ≤ 65536) (hM : Below' mw M) (hd : NeaD a v kb g B) (hk1 : 1 ≤ k) (hk2 : k ≤ 63)
    (h : NeaP a v kb g B R k x y M mw b0 w L) (kn : Nat) (p : T3) (d0 d1 d2 d3 : Tr) (hkn : kn < B) (hn : w.heap[kn]? = some (.cells #[iv (some p), ptr d0, ptr d1, ptr d2, ptr d3] 105 (0, 0))) (hp : Sm p) :
    Calls Tryd.prog 111 #[pt a, pt kn] w (NeaSays a v kb g B R k x y M mw b0 ((kn, p) :: L) w) := by
  obtain ⟨hs, m, b, hL, hfin, hinv⟩ := h
  have CN := cell_of_blk (show w.heap[kn]? = some (.cells #[.iface 25 (.agg #[.int .i64 p.1, .int .i64 p.2.1, .int .i64 p.2.2]), ptr d0, ptr d1, ptr d2, ptr d3] 105 (0, 0)) from hn)
  have H := Lib.hid hL; have HX := Lib.hid hx; have HY := Lib.hid hy; have HP := Lib.hid hp; have HN := Lib.hid hn; have HI := Lib.hid hinv; have HF := Lib.hid hfin; have HM := Lib.hid hM; have HD := Lib.hid hd
  have hka : kn ≠ a := by have := hd.ba; omega
  have hkk : kn ≠ kb := by have := hd.bk; omega
  have nf := nf_run
  have L1 := fun e : Later w => cell_of_blk (Ext.blk e.h H.out.ha)
  clear hL hx hy hp hn hinv hfin hM hd
  go_enter Tryd.func111, Tryd.ntmps111
  go_wp2_with fail
  refine region_ext (by kernel_rfl) (by kernel_rfl) (fun hc => ?_)
  repeat (go_big_quiet_step (fail))
  refine wpQuiet_nil ?_
  rintro w1 ⟨⟨_, hw1⟩, rfl⟩
  have H1 := Lib.hid (H.out.ext hw1)
  have HN1 := Lib.hid (Ext.blk hw1 HN.out)
  clear L1 hc hw1 H HN CN nf
  have i1 := item_n p; have i2 := item_m p
  have CN := cell_of_blk (show w1.heap[kn]? = some (.cells #[.iface 25 (.agg #[.int .i64 p.1, .int .i64 p.2.1, .int .i64 p.2.2]), ptr d0, ptr d1, ptr d2, ptr d3] 105 (0, 0)) from HN1.out)
  go_wp2_with fail
  refine (point_any _ _ _ w1).mono ?_
  rintro e w2 ⟨rfl, hx2⟩
  have H2 := Lib.hid (H1.out.ext (hx2.alloc (.cells #[fl (I p.1), fl (I p.2.1)] 64)))
  have HN2 := Lib.hid (Ext.blk (hx2.alloc (.cells #[fl (I p.1), fl (I p.2.1)] 64)) HN1.out)
  have BP := Lib.hid (blk_new w2 (.cells #[fl (I p.1), fl (I p.2.1)] 64))
  have hq : a < w2.heap.size := Nat.lt_of_lt_of_le (Array.getElem?_eq_some_iff.1 H1.out.ha).1 hx2.size
  have st := st_fl
  clear hx2 CN i1 i2 H1 HN1
  go_wp2_with fail
  generalize (w2.alloc (.cells #[fl (I p.1), fl (I p.2.1)] 64)) = wb at *
  have L1 := fun e : Later wb => cell_of_blk (Ext.blk e.h H2.out.ha)
  have L2 := fun e : Later wb => cell_of_blk (Ext.blk e.h BP.out)
  obtain ⟨n, hn⟩ : ∃ n : Nat, dsq x y p = n := ⟨(dsq x y p).toNat, by have := dsq_nonneg x y p; omega⟩
  have HDI := Lib.hid (fun e : Later wb => dist_n p x y n hn e.w HP.out HX.out HY.out)
  have HNN := Lib.hid hn
  clear hn
  refine region_ext (by kernel_rfl) (by kernel_rfl) (fun hc => ?_)
  repeat (go_big_quiet_step (exact Calls.later (HDI.out _)))
  refine wpQuiet_nil ?_
  rintro w3 ⟨⟨_, hw3⟩, rfl⟩
  clear L1 L2 hc
  have H3 := Lib.hid (H2.out.ext hw3)
  have HN3 := Lib.hid (Ext.blk hw3 HN2.out)
  clear H2 hw3 HN2 BP HDI hq
  have CA := cell_of_blk H3.out.ha
  by_cases hlt : (FloatKind.f64.format.order (I n) m == some .lt) = true
  · have HLT := Lib.hid hlt
    have HBL := Lib.hid (HI.out.below HX.out HY.out HM.out p HP.out n HNN.out hlt)
    go_wp2_with fail
    clear CA hlt
    have L1 := fun e : Later w3 => cell_of_blk (Ext.blk e.h H3.out.ha)
    have L2 := fun e : Later w3 => cell_of_blk (Ext.blk e.h (show w3.heap[kn]? = some (.cells #[.iface 25 (.agg #[.int .i64 p.1, .int .i64 p.2.1, .int .i64 p.2.2]), ptr d0, ptr d1, ptr d2, ptr d3] 105 (0, 0)) from HN3.out))
    refine region_ext_tail 8 (by kernel_rfl) (by kernel_rfl) (fun hc => ?_)
    simp only [List.take_succ_cons, List.take_zero, List.drop_succ_cons, List.drop_zero]
    repeat (go_big_quiet_step (fail))
    refine wpQuiet_nil ?_
    rintro w4 ⟨⟨_, hw4⟩, rfl⟩
    have H4 := Lib.hid (H3.out.ext hw4)
    clear L1 L2 hc hw4 H3 HN3
    go_wp2_with fail
    have hlk := HI.out.len
    have hpush := push_any (kw := dw x y) (d := dsq x y) p (H4.out.hl HD.out) (by omega) (by omega) HP.out (fun z hz => (HI.out.lt z hz).2) HI.out.hp (key_dsq HX.out HY.out)
    rw [show fl (dw x y p) = fl (I n) from by unfold dw; rw [HNN.out]] at hpush
    refine hpush.mono ?_
    clear hpush
    rintro e w5 ⟨rfl, H', hl5, hperm, hHp⟩
    have H5 := Lib.hid (H4.out.of_hl HD.out hl5); have PM := Lib.hid hperm; have HHP := Lib.hid hHp
    have HPL := Lib.hid (show H'.length = hs.length + 1 by rw [hperm.length_eq]; rfl)
    clear hl5 hperm hHp H4
    go_wp2_with fail
    have L1 := fun e : Later w5 => cell_of_blk (Ext.blk e.h H5.out.ha)
    by_cases hfull : hs.length + 1 ≤ k
    · have dk : decide ((hs.length : Int) + 1 > k) = false := by simp; omega
      have dk2 : decide ((k : Int) < (hs.length : Int) + 1) = false := by simp; omega
      refine region_ext (by kernel_rfl) (by kernel_rfl) (fun hc => ?_)
      repeat (go_big_quiet_step (fail))
      refine wpQuiet_nil ?_
      rintro w6 ⟨⟨_, hw6⟩, rfl⟩
      have H6 := Lib.hid (H5.out.ext hw6)
      clear L1 hc hw6 H5
      have FIN := Lib.hid (show NeaSays a v kb g B R k x y M mw b0 ((kn, p) :: L) w (.returned (.tuple #[])) w6 from
        ⟨rfl, ⟨H', m, b, by rw [HPL.out]; exact H6.out.self, HF.out, HI.out.more (kn, p) HP.out HBL.out.1 HHP.out PM.out (by rw [HPL.out]; exact hfull)⟩, H6.out.below⟩)
      clear H6
      go_wp2_with fail
      exact bodyPost_ret (v := .tuple #[]) (by simp [results, Tryd.results111, go_sem]) rfl FIN.out
    · have hlk2 : hs.length = k := by omega
      have dk : decide ((hs.length : Int) + 1 > k) = true := by simp; omega
      have dk2 : decide ((k : Int) < (hs.length : Int) + 1) = true := by simp; omega
      refine region_ext (by kernel_rfl) (by kernel_rfl) (fun hc => ?_)
      repeat (go_big_quiet_step (fail))
      refine wpQuiet_nil ?_
      rintro w6 ⟨⟨_, hw6⟩, rfl⟩
      have H6 := Lib.hid (H5.out.ext hw6)
      clear L1 hc hw6 H5
      obtain ⟨H0, l, hHl⟩ : ∃ H0 l, H' = H0 ++ [l] := ⟨H'.dropLast, H'.getLast (by intro e; rw [e] at HPL; have := HPL.out; simp at this), (List.dropLast_concat_getLast _).symm⟩
      obtain ⟨t, ht⟩ : ∃ t, H'[0]? = some t := ⟨_, List.getElem?_eq_getElem (by rw [HPL.out]; omega)⟩
      have HT := Lib.hid ht
      have HSM := Lib.hid (show ∀ z ∈ H', Sm z from fun z hz => by
        rcases List.mem_cons.1 (PM.out.mem_iff.1 hz) with rfl | hz
        · exact HP.out
        · exact (HI.out.lt z hz).2)
      have hpop := pop_any (kw := dw x y) (d := dsq x y) (R := R) (W := w6) (n := hs.length) (by have := H6.out.hl HD.out; rw [hHl] at this; exact this) (by omega) (by rw [← hHl]; exact HSM.out) (by rw [← hHl]; exact HHP.out) (by rw [← hHl]; exact ht) (key_dsq HX.out HY.out)
      rw [← hHl] at hpop
      have HPOP := Lib.hid hpop
      clear hpop ht hHl
      go_wp2_with fail
      refine HPOP.out.mono ?_
      rintro e w7 ⟨rfl, H'', hl7, hperm7, hHp7⟩
      have H7 := Lib.hid (H6.out.of_hl HD.out hl7); have PM7 := Lib.hid hperm7; have HHP7 := Lib.hid hHp7
      have HPL7 := Lib.hid (show H''.length = k by have := hperm7.length_eq; rw [List.length_cons, HPL.out] at this; omega)
      obtain ⟨t', ht'⟩ : ∃ t, H''[0]? = some t := ⟨_, List.getElem?_eq_getElem (by rw [HPL7.out]; omega)⟩
      have HT' := Lib.hid ht'
      obtain ⟨e0', e1'⟩ := hl7.cells ht'
      rw [Nat.zero_mul] at e0' e1'
      rw [Nat.zero_add] at e1'
      have e0 : w7.cell? ⟨g, 0, none⟩ = some (.iface 25 (.agg #[.int .i64 t'.1, .int .i64 t'.2.1, .int .i64 t'.2.2])) := e0'
      have e1 : w7.cell? ⟨g, 1, none⟩ = some (fl (dw x y t')) := e1'
      have CA := cell_of_blk H7.out.ha
      have hga := (Array.getElem?_eq_some_iff.1 H7.out.ha).1
      have hgg := (own_lt H7.out.own).2
      have hln : 0 < hs.length := by omega
      have FA := free_of_blk H7.out.ha
      have HSM' := Lib.hid (show Sm t' from HSM.out t' (PM7.out.mem_iff.1 (List.mem_cons_of_mem _ (List.mem_of_getElem? ht'))))
      obtain ⟨n', hn', hn2⟩ := dsq_cast t' HX.out HY.out HSM'.out
      have hdw : dw x y t' = I n' := by unfold dw; rw [hn']
      rw [hdw] at e1
      have HN' := Lib.hid hn'
      obtain ⟨s, x0, x1, y0, y1, es, ex0, ex1, ey0, ey1, f1, f2, f3, f4, hbx⟩ := box_ok n' hn2 HX.out HY.out
      have rx0 := run_fl .sub _ _ _ ex0
      have rx1 := run_fl .add _ _ _ ex1
      have ry0 := run_fl .sub _ _ _ ey0
      have ry1 := run_fl .add _ _ _ ey1
      have ES := Lib.hid es
      have FIN := Lib.hid (show FinB (x0, y0, x1, y1) from ⟨f1, f2, f3, f4⟩)
      have HBX := Lib.hid hbx
      clear es ex0 ex1 ey0 ey1 f1 f2 f3 f4 hbx ht' hl7 hperm7 hHp7 e0' e1' hn' hdw H6 HPOP
      go_wp2_with fail
      refine (sqrt_any n' s ES.out _).mono ?_
      rintro e w8 ⟨rfl, rfl⟩
      have HL9 := Lib.hid ((H7.out.setm HD.out (fl (I n'))).ext ((Ext.refl _).alloc (.cells #[.iface 25 (.agg #[.int .i64 t'.1, .int .i64 t'.2.1, .int .i64 t'.2.2]), fl (I n')] 118)))
      clear CA FA e0 e1 H7
      generalize (World.setCell _ _ (fl (I n'))).alloc (.cells #[.iface 25 (.agg #[.int .i64 t'.1, .int .i64 t'.2.1, .int .i64 t'.2.2]), fl (I n')] 118) = w9 at *
      go_wp2_with fail
      have L1 := fun e : Later w9 => cell_of_blk (Ext.blk e.h HL9.out.ha)
      refine region_ext_tail 14 (by kernel_rfl) (by kernel_rfl) (fun hc => ?_)
      simp only [List.take_succ_cons, List.take_zero, List.drop_succ_cons, List.drop_zero]
      repeat (go_big_quiet_step (fail))
      refine wpQuiet_nil ?_
      rintro wa0 ⟨⟨_, hw⟩, rfl⟩
      clear L1 hc
      have HQ0 := Lib.hid (HL9.out.ext hw)
      clear hw HL9
      have CB := cell_of_blk HQ0.out.hk
      have FB := free_of_blk HQ0.out.hk
      go_wp2_with fail
      have HB0 := Lib.hid (HQ0.out.setk HD.out 0 x0 (by decide))
      clear CB FB HQ0
      generalize World.setCell _ _ (fl x0) = wb0 at *
      go_wp2_with fail
      have L1 := fun e : Later wb0 => cell_of_blk (Ext.blk e.h HB0.out.ha)
      refine region_ext_tail 14 (by kernel_rfl) (by kernel_rfl) (fun hc => ?_)
      simp only [List.take_succ_cons, List.take_zero, List.drop_succ_cons, List.drop_zero]
      repeat (go_big_quiet_step (fail))
      refine wpQuiet_nil ?_
      rintro wa1 ⟨⟨_, hw⟩, rfl⟩
      clear L1 hc
      have HQ1 := Lib.hid (HB0.out.ext hw)
      clear hw HB0
      have CB := cell_of_blk HQ1.out.hk
      have FB := free_of_blk HQ1.out.hk
      go_wp2_with fail
      have HB1 := Lib.hid (HQ1.out.setk HD.out 2 x1 (by decide))
      clear CB FB HQ1
      generalize World.setCell _ _ (fl x1) = wb1 at *
      go_wp2_with fail
      have L1 := fun e : Later wb1 => cell_of_blk (Ext.blk e.h HB1.out.ha)
      refine region_ext_tail 14 (by kernel_rfl) (by kernel_rfl) (fun hc => ?_)
      simp only [List.take_succ_cons, List.take_zero, List.drop_succ_cons, List.drop_zero]
      repeat (go_big_quiet_step (fail))
      refine wpQuiet_nil ?_
      rintro wa2 ⟨⟨_, hw⟩, rfl⟩
      clear L1 hc
      have HQ2 := Lib.hid (HB1.out.ext hw)
      clear hw HB1
      have CB := cell_of_blk HQ2.out.hk
      have FB := free_of_blk HQ2.out.hk
      go_wp2_with fail
      have HB2 := Lib.hid (HQ2.out.setk HD.out 1 y0 (by decide))
      clear CB FB HQ2
      generalize World.setCell _ _ (fl y0) = wb2 at *
      go_wp2_with fail
      have L1 := fun e : Later wb2 => cell_of_blk (Ext.blk e.h HB2.out.ha)
      refine region_ext_tail 14 (by kernel_rfl) (by kernel_rfl) (fun hc => ?_)
      simp only [List.take_succ_cons, List.take_zero, List.drop_succ_cons, List.drop_zero]
      repeat (go_big_quiet_step (fail))
      refine wpQuiet_nil ?_
      rintro wa3 ⟨⟨_, hw⟩, rfl⟩
      clear L1 hc
      have HQ3 := Lib.hid (HB2.out.ext hw)
      clear hw HB2
      have CB := cell_of_blk HQ3.out.hk
      have FB := free_of_blk HQ3.out.hk
      go_wp2_with fail
      have HB3 := Lib.hid (HQ3.out.setk HD.out 3 y1 (by decide))
      clear CB FB HQ3
      refine bodyPost_ret (v := .tuple #[]) (by simp [results, Tryd.results111, go_sem]) rfl ⟨rfl, ⟨H'', I n', (x0, y0, x1, y1), ?_, FIN.out, ?_⟩, HB3.out.below⟩
      · have e9 := HB3.out.self
        rw [hlk2] at e9
        rw [HPL7.out]; exact e9
      · have := HI.out.full (b' := (x0, y0, x1, y1)) (kn, p) HP.out HBL.out.1 HBL.out.2 HHP.out PM.out HT.out PM7.out HHP7.out HPL7.out HT'.out (fun r hr ho => by rw [HN'.out]; exact HBX.out r hr ho)
        rwa [HN'.out] at this
  · have ht : (FloatKind.f64.format.order (I n) m == some .lt) = false := by rw [← Bool.not_eq_true]; exact hlt
    have FIN := Lib.hid (show NeaSays a v kb g B R k x y M mw b0 ((kn, p) :: L) w (.returned (.tuple #[])) w3 from
      ⟨rfl, ⟨hs, m, b, H3.out.self, HF.out, HI.out.far HX.out HY.out HM.out (kn, p) HP.out n HNN.out ht⟩, H3.out.below⟩)
    clear hlt
    go_wp2_with fail
    exact bodyPost_ret (v := .tuple #[]) (by simp [results, Tryd.results111, go_sem]) rfl FIN.out

end Go.Proofs.YtmmmknmncdlopaaDoor

namespace Go.Proofs.YtmmmknmncdlopaaDoor
open Go.ChangeShapes Go.WideShapes Go.ChangeAt Go.RowKit
open Go.Proofs.YtmmmknmncdlopaaDoor.F

theorem nea_vis {a v kb g B R k : Nat} {x y : Int} {M : Int} {mw : Nat} {b0 : B4} (N : Nat) (hx : x.natAbs ≤ 65536) (hy : y.natAbs ≤ 65536) (hM : Below' mw M) (hd : NeaD a v kb g B) (hk1 : 1 ≤ k) (hk2 : k ≤ 63) :
    Vis 112 109 110 111 a v kb B N (fun w L => NeaP a v kb g B R k x y M mw b0 w L) where
  nB := nea_nB a
  nP := nea_nP a
  nV := nea_nV a
  mB := nea_mB a
  mP := nea_mP a
  mV := nea_mV a
  eB := nea_eB
  eP := nea_eP
  eV := nea_eV
  vis := fun ⟨_, _, _, h, _⟩ => h.hv
  box := fun ⟨hs, m, b, h, f, i⟩ => ⟨b.1, b.2.1, b.2.2.1, b.2.2.2, f.1, f.2.1, f.2.2.1, f.2.2.2, h.hk, fun n hn => ⟨hs, m, b, h, f, i.box n hn⟩⟩
  size := fun ⟨_, _, _, h, _⟩ => h.size
  perm := fun ⟨hs, m, b, h, f, i⟩ hp => ⟨hs, m, b, h, f, i.perm hp⟩
  ext := fun ⟨hs, m, b, h, f, i⟩ hx => ⟨hs, m, b, (h.ext hx).self, f, i⟩
  bound := fun ⟨_, _, _, h, _⟩ => nea_bound h.ha
  point := ⟨I x, I y, _, _, I_F x (by omega), I_F y (by omega), fun ⟨_, _, _, h, _⟩ => nea_point h.ha⟩
  visit := fun kn p c0 c1 c2 c3 h _ hk hn hp => (nea_visit hx hy hM hd hk1 hk2 h kn p c0 c1 c2 c3 hk hn hp).mono fun _ _ h => h

end Go.Proofs.YtmmmknmncdlopaaDoor
