/- The visitor of Find: one node. -/
import Derived.Test.YtmmmknmncdlopaaDoorQuadJ
import Derived.Deep.Cut
namespace Go.Proofs.YtmmmknmncdlopaaDoor
open Go.ChangeShapes Go.WideShapes Go.ChangeAt Go.RowKit
open Go.Proofs.YtmmmknmncdlopaaDoor.F

theorem nf_run : ∀ W, (binOp .neq 92 .nilFunc .nilFunc).run Tryd.prog W = .ok (.bool false) W := fun _ => by kernel_rfl
theorem fn_run (F : Nat) (cap : Array Value) : ∀ W, (binOp .neq 92 (.func (.func F) #[] cap) .nilFunc).run Tryd.prog W = .ok (.bool true) W := fun _ => by kernel_rfl

theorem FinP.ext {a v kb B : Nat} {x y : Int} {fv : Value} {f : T3 → Bool} {Q : World → Prop} {b0 : B4} {w w' : World} {L : List (Nat × T3)} {c : Option (Nat × T3)} {m : Nat} {b : B4} (h : FinP a v kb B x y fv f Q b0 w L c m b) (hQ : ∀ w w', Q w → Below B w w' → Q w') (hx : Ext w w') : FinP a v kb B x y fv f Q b0 w' L c m b :=
  ⟨Ext.blk hx h.hv, Ext.blk hx h.ha, Ext.blk hx h.hk, hQ _ _ h.q (Below.mono hx h.size), Nat.le_trans h.size hx.size, h.fin, h.inv⟩
theorem FinP.with {a v kb B : Nat} {x y : Int} {fv : Value} {f : T3 → Bool} {Q : World → Prop} {b0 : B4} {w : World} {L L' : List (Nat × T3)} {c : Option (Nat × T3)} {m : Nat} {b : B4} (h : FinP a v kb B x y fv f Q b0 w L c m b) (hi : FinI x y f L' b0 m b c) : FinP a v kb B x y fv f Q b0 w L' c m b :=
  ⟨h.hv, h.ha, h.hk, h.q, h.size, h.fin, hi⟩

/-- What the visit of one node leaves. -/
def FinSays (a v kb B : Nat) (x y : Int) (fv : Value) (f : T3 → Bool) (Q : World → Prop) (b0 : B4) (L : List (Nat × T3)) (w : World) (e : Ending) (w' : World) : Prop :=
  e = .returned (.tuple #[]) ∧ (∃ c m b, FinP a v kb B x y fv f Q b0 w' L c m b) ∧ Below B w w'

set_option maxRecDepth 8000 in
set_option maxHeartbeats 6400000 in
theorem fin_visit {a v kb B : Nat} {x y : Int} {fv : Value} {f : T3 → Bool} {Q : World → Prop} {b0 : B4} {w : World} {L : List (Nat × T3)} {c : Option (Nat × T3)} {m : Nat} {b : B4} (hx : x.natAbs ≤ 65536) (hy : y.natAbs ≤ 65536) (hF : Fil fv f Q) (hQ : ∀ w w', Q w → Below B w w' → Q w') (hd : B ≤ a ∧ B ≤ kb ∧ a ≠ kb ∧ v ≠ a ∧ v ≠ kb)
    (h : FinP a v kb B x y fv f Q b0 w L c m b) (k : Nat) (p : T3) (c0 c1 c2 c3 : Tr) (hk : k < B) (hn : w.heap[k]? = some (.cells #[iv (some p), ptr c0, ptr c1, ptr c2, ptr c3] 105 (0, 0))) (hp : Sm p) :
    Calls Tryd.prog 102 #[pt a, pt k] w (FinSays a v kb B x y fv f Q b0 ((k, p) :: L) w) := by
  have CA := cell_of_blk h.ha
  have CN := cell_of_blk (show w.heap[k]? = some (.cells #[.iface 25 (.agg #[.int .i64 p.1, .int .i64 p.2.1, .int .i64 p.2.2]), ptr c0, ptr c1, ptr c2, ptr c3] 105 (0, 0)) from hn)
  have H := Lib.hid h; have HX := Lib.hid hx; have HY := Lib.hid hy; have HQ := Lib.hid hQ; have HP := Lib.hid hp; have HN := Lib.hid hn
  have hka : k ≠ a := by omega
  have hkk : k ≠ kb := by omega
  clear h hx hy hQ hp hn
  have HFL := Lib.hid hF; clear hF
  go_enter Tryd.func102, Tryd.ntmps102
  go_wp2_with fail
  go_cut [22] from 6 (fun s wx => s = .bool (!f p) ∧ Ext w wx)
  case first =>
    have L1 := fun e : Later w => cell_of_blk (Ext.blk e.h H.out.ha)
    have L2 := fun e : Later w => cell_of_blk (Ext.blk e.h (show w.heap[k]? = some (.cells #[.iface 25 (.agg #[.int .i64 p.1, .int .i64 p.2.1, .int .i64 p.2.2]), ptr c0, ptr c1, ptr c2, ptr c3] 105 (0, 0)) from HN.out))
    rcases HFL.out with ⟨rfl, hf⟩ | ⟨F, rfl, eF, hf⟩ | ⟨F, cc, rfl, eF, hf⟩
    · have HF := Lib.hid hf; clear hf
      have nf := nf_run
      refine region_ext (by kernel_rfl) (by kernel_rfl) (fun hc => ?_)
      repeat (go_big_quiet_step (fail))
      refine wpQuiet_nil ?_
      rintro w3 ⟨⟨_, hw3⟩, rfl⟩
      clear L1 L2 hc
      go_wp2_with fail
      go_meet
      exact ⟨by rw [HF.out]; rfl, hw3⟩
    · have HF := Lib.hid (show ∀ e : Later w, Calls Tryd.prog F #[.iface 25 (.agg #[.int .i64 p.1, .int .i64 p.2.1, .int .i64 p.2.2])] e.w fun r w' => r = .returned (.bool (f p)) ∧ Ext e.w w' from fun e => hf e.w p (HQ.out _ _ H.out.q (Below.mono e.h H.out.size)))
      clear hf
      have nf := fn_run F #[]
      refine region_ext (by kernel_rfl) (by kernel_rfl) (fun hc => ?_)
      repeat (go_big_quiet_step (exact Calls.later (HF.out _)))
      refine wpQuiet_nil ?_
      rintro w3 ⟨⟨_, hw3⟩, rfl⟩
      clear L1 L2 hc
      go_wp2_with fail
      go_meet
      exact ⟨rfl, hw3⟩
    · have HF := Lib.hid (show ∀ e : Later w, Calls Tryd.prog F #[.iface 25 (.agg #[.int .i64 p.1, .int .i64 p.2.1, .int .i64 p.2.2]), cc] e.w fun r w' => r = .returned (.bool (f p)) ∧ Ext e.w w' from fun e => hf e.w p (HQ.out _ _ H.out.q (Below.mono e.h H.out.size)))
      clear hf
      have nf := fn_run F #[cc]
      refine region_ext (by kernel_rfl) (by kernel_rfl) (fun hc => ?_)
      repeat (go_big_quiet_step (exact Calls.later (HF.out _)))
      refine wpQuiet_nil ?_
      rintro w3 ⟨⟨_, hw3⟩, rfl⟩
      clear L1 L2 hc
      go_wp2_with fail
      go_meet
      exact ⟨rfl, hw3⟩
  case rest =>
    obtain ⟨rfl, hx1⟩ := hcut
    have H1 := Lib.hid (H.out.ext HQ.out hx1)
    have HB1 := Lib.hid (Below.mono hx1 H.out.size)
    have HN1 := Lib.hid (Ext.blk hx1 HN.out)
    clear hx1 CA CN H HN HFL
    by_cases hf : f p = true
    · have HF := Lib.hid hf
      rw [hf]
      clear hf
      have i1 := item_n p; have i2 := item_m p
      have CA := cell_of_blk H1.out.ha
      have CN := cell_of_blk (show wc.heap[k]? = some (.cells #[.iface 25 (.agg #[.int .i64 p.1, .int .i64 p.2.1, .int .i64 p.2.2]), ptr c0, ptr c1, ptr c2, ptr c3] 105 (0, 0)) from HN1.out)
      go_wp2_with fail
      refine (point_any _ _ _ wc).mono ?_
      rintro e w2 ⟨rfl, hx2⟩
      have H2 := Lib.hid (H1.out.ext HQ.out (hx2.alloc (.cells #[fl (I p.1), fl (I p.2.1)] 64)))
      have HB2 := Lib.hid (HB1.out.trans (Below.mono (hx2.alloc (.cells #[fl (I p.1), fl (I p.2.1)] 64)) H1.out.size))
      have BP := Lib.hid (blk_new w2 (.cells #[fl (I p.1), fl (I p.2.1)] 64))
      have hq : a < w2.heap.size := Nat.lt_of_lt_of_le (Array.getElem?_eq_some_iff.1 H1.out.ha).1 hx2.size
      have HQ2 := Lib.hid hq
      have st := st_fl
      clear hx2 hq CA CN i1 i2 H1 HB1 HN1
      go_wp2_with fail
      generalize (w2.alloc (.cells #[fl (I p.1), fl (I p.2.1)] 64)) = wb at *
      have L1 := fun e : Later wb => cell_of_blk (Ext.blk e.h H2.out.ha)
      have L2 := fun e : Later wb => cell_of_blk (Ext.blk e.h BP.out)
      obtain ⟨n, hn⟩ : ∃ n : Nat, dsq x y p = n := ⟨(dsq x y p).toNat, by have := dsq_nonneg x y p; omega⟩
      have HD := Lib.hid (fun e : Later wb => dist_n p x y n hn e.w HP.out HX.out HY.out)
      have HN := Lib.hid hn
      clear hn
      refine region_ext (by kernel_rfl) (by kernel_rfl) (fun hc => ?_)
      repeat (go_big_quiet_step (exact Calls.later (HD.out _)))
      refine wpQuiet_nil ?_
      rintro w3 ⟨⟨_, hw3⟩, rfl⟩
      clear L1 L2 hc
      have H3 := Lib.hid (H2.out.ext HQ.out hw3)
      have HB3 := Lib.hid (HB2.out.trans (Below.mono hw3 H2.out.size))
      clear H2 HB2 hw3
      have CA := cell_of_blk H3.out.ha
      obtain ⟨t, ht, hyes, hno⟩ := H3.out.inv.cmp HX.out HY.out (k, p) HP.out n HN.out
      cases t
      · have FIN := Lib.hid (show FinSays a v kb B x y fv f Q b0 ((k, p) :: L) w (.returned (.tuple #[])) w3 from ⟨rfl, ⟨c, m, b, H3.out.with (hno rfl)⟩, HB3.out⟩)
        clear hyes hno
        go_wp2_with fail
        exact bodyPost_ret (v := .tuple #[]) (by simp [results, Tryd.results102, go_sem]) rfl FIN.out
      · have YES := Lib.hid (hyes rfl)
        clear hno hyes
        have HL := Lib.hid (show FinL a v kb B fv Q w (I x) (I y) w3 (cp c) (fl m) b from ⟨H3.out.hv, H3.out.ha, H3.out.hk, H3.out.q, H3.out.size, HB3.out⟩)
        have HH := Lib.hid hd
        have FA := free_of_blk H3.out.ha
        obtain ⟨s, x0, x1, y0, y1, es, ex0, ex1, ey0, ey1, f1, f2, f3, f4, hbx⟩ := box_ok n (by have := dsq_lt HX.out HY.out HP.out; have := HN.out; omega) HX.out HY.out
        have rx0 := run_fl .sub _ _ _ ex0
        have rx1 := run_fl .add _ _ _ ex1
        have ry0 := run_fl .sub _ _ _ ey0
        have ry1 := run_fl .add _ _ _ ey1
        have ES := Lib.hid es
        have FIN := Lib.hid (show FinB (x0, y0, x1, y1) from ⟨f1, f2, f3, f4⟩)
        have HBX := Lib.hid hbx
        clear es ex0 ex1 ey0 ey1 f1 f2 f3 f4 hbx hd
        go_wp2_with fail
        refine (sqrt_any n s ES.out _).mono ?_
        rintro e w4 ⟨rfl, rfl⟩
        have HL4 := Lib.hid ((HL.out.setm HQ.out HH.out (fl (I n))).setc HQ.out HH.out (pt k))
        clear HL CA FA ht
        generalize World.setCell _ _ (pt k) = w5 at *
        go_wp2_with fail
        have L1 := fun e : Later w5 => cell_of_blk (Ext.blk e.h HL4.out.ha)
        refine region_ext_tail 14 (by kernel_rfl) (by kernel_rfl) (fun hc => ?_)
        simp only [List.take_succ_cons, List.take_zero, List.drop_succ_cons, List.drop_zero]
        repeat (go_big_quiet_step (fail))
        refine wpQuiet_nil ?_
        rintro w6a ⟨⟨_, hw6⟩, rfl⟩
        clear L1 hc
        have HL4' := Lib.hid (HL4.out.ext HQ.out hw6)
        clear hw6 HL4
        have CB := cell_of_blk HL4'.out.hk
        have FB := free_of_blk HL4'.out.hk
        go_wp2_with fail
        have HL6 := Lib.hid (HL4'.out.setk HQ.out HH.out 0 x0 (by decide))
        clear CB FB HL4'
        generalize World.setCell _ _ (fl x0) = w6 at *
        go_wp2_with fail
        have L1 := fun e : Later w6 => cell_of_blk (Ext.blk e.h HL6.out.ha)
        refine region_ext_tail 14 (by kernel_rfl) (by kernel_rfl) (fun hc => ?_)
        simp only [List.take_succ_cons, List.take_zero, List.drop_succ_cons, List.drop_zero]
        repeat (go_big_quiet_step (fail))
        refine wpQuiet_nil ?_
        rintro w7a ⟨⟨_, hw7⟩, rfl⟩
        clear L1 hc
        have HL6' := Lib.hid (HL6.out.ext HQ.out hw7)
        clear hw7 HL6
        have CB := cell_of_blk HL6'.out.hk
        have FB := free_of_blk HL6'.out.hk
        go_wp2_with fail
        have HL7 := Lib.hid (HL6'.out.setk HQ.out HH.out 2 x1 (by decide))
        clear CB FB HL6'
        generalize World.setCell _ _ (fl x1) = w7 at *
        have L1 := fun e : Later w7 => cell_of_blk (Ext.blk e.h HL7.out.ha)
        refine region_ext_tail 14 (by kernel_rfl) (by kernel_rfl) (fun hc => ?_)
        simp only [List.take_succ_cons, List.take_zero, List.drop_succ_cons, List.drop_zero]
        repeat (go_big_quiet_step (fail))
        refine wpQuiet_nil ?_
        rintro w8a ⟨⟨_, hw8⟩, rfl⟩
        clear L1 hc
        have HL7' := Lib.hid (HL7.out.ext HQ.out hw8)
        clear hw8 HL7
        have CB := cell_of_blk HL7'.out.hk
        have FB := free_of_blk HL7'.out.hk
        go_wp2_with fail
        have HL8 := Lib.hid (HL7'.out.setk HQ.out HH.out 1 y0 (by decide))
        clear CB FB HL7'
        generalize World.setCell _ _ (fl y0) = w8 at *
        go_wp2_with fail
        have L1 := fun e : Later w8 => cell_of_blk (Ext.blk e.h HL8.out.ha)
        refine region_ext_tail 14 (by kernel_rfl) (by kernel_rfl) (fun hc => ?_)
        simp only [List.take_succ_cons, List.take_zero, List.drop_succ_cons, List.drop_zero]
        repeat (go_big_quiet_step (fail))
        refine wpQuiet_nil ?_
        rintro w9a ⟨⟨_, hw9⟩, rfl⟩
        clear L1 hc
        have HL8' := Lib.hid (HL8.out.ext HQ.out hw9)
        clear hw9 HL8
        have CB := cell_of_blk HL8'.out.hk
        have FB := free_of_blk HL8'.out.hk
        go_wp2_with fail
        have HL9 := Lib.hid (HL8'.out.setk HQ.out HH.out 3 y1 (by decide))
        clear CB FB HL8'
        refine bodyPost_ret (v := .tuple #[]) (by simp [results, Tryd.results102, go_sem]) rfl ⟨rfl, ⟨some (k, p), I n, (x0, y0, x1, y1), HL9.out.hv, HL9.out.ha, HL9.out.hk, HL9.out.q, HL9.out.size, FIN.out, ?_⟩, HL9.out.below⟩
        have h := H3.out.inv.near (k, p) HP.out HF.out YES.out (b' := (x0, y0, x1, y1)) (fun r hr ho => by rw [HN.out]; exact HBX.out r hr ho)
        rw [show dsq x y (k, p).2 = n from HN.out] at h
        exact h
    · rw [Bool.not_eq_true] at hf
      have FIN := Lib.hid (show FinSays a v kb B x y fv f Q b0 ((k, p) :: L) w (.returned (.tuple #[])) wc from ⟨rfl, ⟨c, m, b, H1.out.with (H1.out.inv.skip (k, p) hf)⟩, HB1.out⟩)
      rw [hf]
      clear hf
      go_wp2_with fail
      exact bodyPost_ret (v := .tuple #[]) (by simp [results, Tryd.results102, go_sem]) rfl FIN.out

end Go.Proofs.YtmmmknmncdlopaaDoor
