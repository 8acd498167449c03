/- (*maxHeap).Pop. Conditions: something is there; keys that compare as numbers. -/
import Derived.Test.YtmmmknmncdlopaaDoorHeapB
import Derived.BigRegion
namespace Go.Proofs.YtmmmknmncdlopaaDoor
open Go.ChangeShapes Go.WideShapes Go.ChangeAt Go.RowKit
open Go.Proofs.YtmmmknmncdlopaaDoor.F

theorem HL.other {R : Nat} {W w : World} {a g K n : Nat} {c0 c1 c2 c3 c5 c6 : Value} {xs : List Value} (h : HL R W w a g K n c0 c1 c2 c3 c5 c6 xs) {b : Nat} (hb : W.heap.size ≤ b) (ha : b ≠ a) (hg : b ≠ g) (o : Nat) (u : Value) : HL R W (w.setCell ⟨b, o, none⟩ u) a g K n c0 c1 c2 c3 c5 c6 xs :=
  ⟨(blk_setCell_ne (Ne.symm ha) _ _).trans h.ha, own_keep h.own (blk_setCell_ne (Ne.symm hg) _ _), h.ne,
    ⟨h.mod.os, h.mod.tape, h.mod.output, by rw [size_setCell]; exact h.mod.size, fun k hk hs => (blk_setCell_ne (by omega) _ _).trans (h.mod.block k hk hs)⟩⟩
/-- What Pop leaves: all but the greatest. -/
def PopSays (R : Nat) (a g K n : Nat) (c0 c1 c2 c3 c5 c6 : Value) (kw : T3 → Nat) (d : T3 → Int) (hs : List T3) (t : T3) (w : World) (e : Ending) (w' : World) : Prop :=
  e = .returned (.tuple #[]) ∧ ∃ H, HL R w w' a g K n c0 c1 c2 c3 c5 c6 (hcs kw H) ∧ (t :: H).Perm hs ∧ Hp d H

set_option maxRecDepth 8000 in
set_option maxHeartbeats 6400000 in
theorem pop_any {R : Nat} {W w : World} {a g K n : Nat} {c0 c1 c2 c3 c5 c6 : Value} {kw : T3 → Nat} {d : T3 → Int} {H0 : List T3} {l t : T3} (h : HL R W w a g K (n + 1) c0 c1 c2 c3 c5 c6 (hcs kw (H0 ++ [l]))) (hK : K ≤ 64) (hsm : ∀ x ∈ H0 ++ [l], Sm x) (hh : Hp d (H0 ++ [l])) (ht : (H0 ++ [l])[0]? = some t) (hkey : Key kw d) :
    Calls Tryd.prog 55 #[.pointer (some ⟨a, 4, none⟩)] w (PopSays R a g K n c0 c1 c2 c3 c5 c6 kw d (H0 ++ [l]) t w) := by
  have h : HL R w w a g K (n + 1) c0 c1 c2 c3 c5 c6 (hcs kw (H0 ++ [l])) := ⟨h.ha, h.own, h.ne, Mod.of_ext (Ext.refl _)⟩
  have hlen : H0.length = n := by have := h.len; rw [List.length_append, List.length_singleton] at this; omega
  have hnK : n + 1 ≤ K := (own_cap2 h.own).1
  have HH := Lib.hid h; have HSM := Lib.hid hsm; have HP := Lib.hid hh; have HT := Lib.hid ht; have HKEY := Lib.hid hkey; have HLEN := Lib.hid hlen
  have hlast : (H0 ++ [l])[n]? = some l := by rw [← hlen, List.getElem?_append_right (Nat.le_refl _), Nat.sub_self]; rfl
  obtain ⟨e0', e1⟩ := h.cells hlast
  have e0 : w.cell? ⟨g, n * 2, none⟩ = some (.iface 25 (.agg #[.int .i64 l.1, .int .i64 l.2.1, .int .i64 l.2.2])) := e0'
  clear e0'
  have hne := h.ne
  have hne2 : g ≠ a := Ne.symm h.ne
  clear hsm hh ht hkey hlen hlast h
  have st := st_fl
  have hwn : IntKind.i64.wrap (n : Int) = n := IntWalk.i64_in _ (by omega)
  have hin : (n : Int) < (n : Int) + 1 := by omega
  go_enter Tryd.func55, Tryd.ntmps55
  go_wp2_with fail
  have CA := cell_of_blk HH.out.ha
  have hga := (Array.getElem?_eq_some_iff.1 HH.out.ha).1
  have hgg := (own_lt HH.out.own).2
  go_region
  have H2 := Lib.hid (HH.out.ext (((Ext.refl w).alloc (.cells #[.iface 25 (.agg #[.int .i64 l.1, .int .i64 l.2.1, .int .i64 l.2.2]), fl (kw l)] 118)).drew))
  have BL := Lib.hid (show (w.alloc (.cells #[.iface 25 (.agg #[.int .i64 l.1, .int .i64 l.2.1, .int .i64 l.2.2]), fl (kw l)] 118)).drew.heap[w.heap.size]? = _ from blk_new w (.cells #[.iface 25 (.agg #[.int .i64 l.1, .int .i64 l.2.1, .int .i64 l.2.2]), fl (kw l)] 118))
  have ht2 : w.heap.size ≠ g := by omega
  have ht3 : g ≠ w.heap.size := by omega
  have ht4 : a ≠ w.heap.size := by omega
  generalize hb2 : w.heap.size = b2 at *
  generalize (w.alloc (.cells #[.iface 25 (.agg #[.int .i64 l.1, .int .i64 l.2.1, .int .i64 l.2.2]), fl (kw l)] 118)).drew = w2 at *
  clear hb2 CA e0 e1 HH
  have L0 := fun e : Later w2 => cell_of_blk (Ext.blk e.h H2.out.ha)
  go_wp2_with fail
  refine region_ext_tail 11 (by kernel_rfl) (by kernel_rfl) (fun hc => ?_)
  simp only [List.take_succ_cons, List.take_zero, List.drop_succ_cons, List.drop_zero]
  repeat (go_big_quiet_step (fail))
  refine wpQuiet_nil ?_
  rintro w3 ⟨⟨_, hw3⟩, rfl⟩
  have H3 := Lib.hid (H2.out.ext hw3)
  have BL3 := Lib.hid (Ext.blk hw3 BL.out)
  clear L0 hc hw3 H2 BL
  have CA := cell_of_blk H3.out.ha
  have FA := free_of_blk H3.out.ha
  have H4 := Lib.hid H3.out.cut
  have BL4 := Lib.hid ((blk_setCell_ne (b := a) (k := b2) (by omega) 4 (.slice (some ⟨g, 0, none⟩) n K)).trans BL3.out)
  have CB := cell_of_blk BL3.out
  have FR := H3.out.own.frozenAt
  by_cases hn0 : n = 0
  · subst hn0
    have hnil : H0 = [] := List.eq_nil_of_length_eq_zero HLEN.out
    subst hnil
    have FIN := Lib.hid (show PopSays R a g K 0 c0 c1 c2 c3 c5 c6 kw d ([] ++ [l]) t w (.returned (.tuple #[])) (w3.setCell ⟨a, 4, none⟩ (.slice (some ⟨g, 0, none⟩) 0 K)) from
      ⟨rfl, [], H4.out, by have e : l = t := Option.some.inj HT.out; rw [e]; exact .refl _, Hp.nil⟩)
    clear H4 BL4 H3 BL3
    go_wp2
    exact bodyPost_ret (v := .tuple #[]) (by simp [results, Tryd.results55, go_sem]) rfl FIN.out
  · have dn : ((n : Int) == 0) = false := by simp; omega
    obtain ⟨z0, f0⟩ := cell_some H3.out.own (o := 0) (by omega)
    obtain ⟨z1, f1⟩ := cell_some H3.out.own (o := 1) (by omega)
    have H6 := Lib.hid (show HL R w (((w3.setCell ⟨a, 4, none⟩ (.slice (some ⟨g, 0, none⟩) n K)).setCell ⟨g, 0, none⟩ (.iface 25 (.agg #[.int .i64 l.1, .int .i64 l.2.1, .int .i64 l.2.2]))).setCell ⟨g, 1, none⟩ (fl (kw l))) a g K n c0 c1 c2 c3 c5 c6 (hcs kw (H0.set 0 l)) from by
      have := H4.out.put (i := 0) (by omega) l
      simp only [Nat.zero_mul, Nat.zero_add] at this
      exact this)
    have BL6 := Lib.hid (show (((w3.setCell ⟨a, 4, none⟩ (.slice (some ⟨g, 0, none⟩) n K)).setCell ⟨g, 0, none⟩ (.iface 25 (.agg #[.int .i64 l.1, .int .i64 l.2.1, .int .i64 l.2.2]))).setCell ⟨g, 1, none⟩ (fl (kw l))).heap[b2]? = _ from (blk_setCell_ne (b := g) (k := b2) (by omega) 1 _).trans ((blk_setCell_ne (b := g) (k := b2) (by omega) 0 _).trans BL4.out))
    have D0 := Lib.hid (show DnI d (H0.set 0 l) 0 from DnI.start HP.out (by rw [HLEN.out]; omega))
    have P0 := Lib.hid (show (t :: H0.set 0 l).Perm (H0 ++ [l]) from pop_perm HT.out (by rw [HLEN.out]; omega))
    clear H4 BL4 H3 BL3 HP
    go_wp2_with fail
    clear CA FA CB FR f0 f1 dn
    generalize World.setCell _ _ (fl (kw l)) = w6 at *
    go_loopg [4] n (fun r iv wr => ∃ (i : Nat) (H : List T3), r = n - i ∧ i < n ∧ iv = .int .i64 (i : Nat) ∧ H[i]? = some l ∧ DnI d H i ∧ (t :: H).Perm (H0 ++ [l]) ∧ HL R w wr a g K n c0 c1 c2 c3 c5 c6 (hcs kw H) ∧ wr.heap[b2]? = some (.cells #[.iface 25 (.agg #[.int .i64 l.1, .int .i64 l.2.1, .int .i64 l.2.2]), fl (kw l)] 118 (0, 0)))
    case atStart => exact ⟨0, H0.set 0 l, rfl, by omega, rfl, by rw [List.getElem?_set_self (by rw [HLEN.out]; omega)], D0.out, P0.out, H6.out, BL6.out⟩
    case round =>
      obtain ⟨i, H, hri, hin, rfl, hpi, hD, hP, hL, hB⟩ := hrel
      have HRI := Lib.hid hri
      have HPI := Lib.hid hpi; have HD := Lib.hid hD; have HP := Lib.hid hP; have HH := Lib.hid hL; have HB := Lib.hid hB
      clear D0 P0 H6 BL6 hpi hD hP hL hB hri
      obtain ⟨e0', e1⟩ := HH.out.cells HPI.out
      have e0 : wr.cell? ⟨g, i * 2, none⟩ = some (.iface 25 (.agg #[.int .i64 l.1, .int .i64 l.2.1, .int .i64 l.2.2])) := e0'
      clear e0'
      have hga6 := (Array.getElem?_eq_some_iff.1 HH.out.ha).1
      have hgg6 := (own_lt HH.out.own).2
      have hbb6 := (Array.getElem?_eq_some_iff.1 HB.out).1
      have hn62 : n ≤ 63 := by omega
      obtain ⟨rt, hrt0⟩ : ∃ rt : Nat, rt = 2 * i + 2 := ⟨_, rfl⟩
      obtain ⟨lf, hlf0⟩ : ∃ lf : Nat, lf = 2 * i + 1 := ⟨_, rfl⟩
      have hrt : ((i : Int) + 1) * 2 = (rt : Int) := by omega
      have hlf : (rt : Int) - 1 = (lf : Int) := by omega
      have HRT := Lib.hid hrt0; have HLF := Lib.hid hlf0
      have hlr : rt = lf + 1 := by omega
      have HLR := Lib.hid hlr
      clear hrt0 hlf0 hlr
      go_wp2_with fail
      have H6 := Lib.hid (HH.out.ext ((Ext.refl _).alloc (.cells #[.iface 25 (.agg #[.int .i64 l.1, .int .i64 l.2.1, .int .i64 l.2.2]), fl (kw l)] 118)))
      have Q6 := Lib.hid (blk_new wr (.cells #[.iface 25 (.agg #[.int .i64 l.1, .int .i64 l.2.1, .int .i64 l.2.2]), fl (kw l)] 118))
      have B6 := Lib.hid (blk_old HB.out (.cells #[.iface 25 (.agg #[.int .i64 l.1, .int .i64 l.2.1, .int .i64 l.2.2]), fl (kw l)] 118))
      have hb8 := HH.out.mod.size
      have h8a : wr.heap.size ≠ a := by omega
      have h8g : wr.heap.size ≠ g := by omega
      have h28 : b2 ≠ wr.heap.size := by omega
      have h82 : wr.heap.size ≠ b2 := by omega
      have hg8 : g ≠ wr.heap.size := by omega
      generalize wr.alloc (.cells #[.iface 25 (.agg #[.int .i64 l.1, .int .i64 l.2.1, .int .i64 l.2.2]), fl (kw l)] 118) = wb at *
      generalize wr.heap.size = b8 at *
      clear HH HB e0 e1 hga6 hgg6 hbb6
      by_cases hl : lf < n
      · obtain ⟨q, hql⟩ : ∃ q, H[lf]? = some q := ⟨_, List.getElem?_eq_getElem (by have := H6.out.len; omega)⟩
        have HQl := Lib.hid hql
        obtain ⟨g0', g1⟩ := H6.out.cells hql
        have g0 : wb.cell? ⟨g, lf * 2, none⟩ = some (.iface 25 (.agg #[.int .i64 q.1, .int .i64 q.2.1, .int .i64 q.2.2])) := g0'
        clear g0'
        have L1 := fun e : Later wb => cell_of_blk (Ext.blk e.h Q6.out)
        have L2 := fun e : Later wb => e.h.cell g1
        have dl : decide ((lf : Int) < n) = true := by simp; omega
        have hk := HKEY.out l q (HSM.out _ (HP.out.mem_iff.1 (List.mem_cons_of_mem _ (List.mem_of_getElem? HPI.out)))) (HSM.out _ (HP.out.mem_iff.1 (List.mem_cons_of_mem _ (List.mem_of_getElem? hql))))
        clear hql
        by_cases hlq : d l < d q
        · have hd : decide (d l < d q) = true := by simpa using hlq
          rw [hd] at hk
          clear hd
          refine region_ext (by kernel_rfl) (by kernel_rfl) (fun hc => ?_)
          repeat (go_big_quiet_step (fail))
          refine wpQuiet_nil ?_
          rintro w7 ⟨⟨_, hw⟩, rfl⟩
          have H7 := Lib.hid (H6.out.ext hw); have Q7 := Lib.hid (Ext.blk hw Q6.out); have B7 := Lib.hid (Ext.blk hw B6.out)
          clear L1 L2 hc hw H6 Q6 B6
          clear dl hk g1
          have C8 := cell_of_blk Q7.out
          have F8 := free_of_blk Q7.out
          obtain ⟨g0', g1⟩ := H7.out.cells HQl.out
          have g0 : w7.cell? ⟨g, lf * 2, none⟩ = some (.iface 25 (.agg #[.int .i64 q.1, .int .i64 q.2.1, .int .i64 q.2.2])) := g0'
          clear g0'
          have H8 := Lib.hid ((H7.out.other hb8 h8a h8g 0 (.iface 25 (.agg #[.int .i64 q.1, .int .i64 q.2.1, .int .i64 q.2.2]))).other hb8 h8a h8g 1 (fl (kw q)))
          have Q8 := Lib.hid (show ((w7.setCell ⟨b8, 0, none⟩ (.iface 25 (.agg #[.int .i64 q.1, .int .i64 q.2.1, .int .i64 q.2.2]))).setCell ⟨b8, 1, none⟩ (fl (kw q))).heap[b8]? = some (.cells #[.iface 25 (.agg #[.int .i64 q.1, .int .i64 q.2.1, .int .i64 q.2.2]), fl (kw q)] 118 (0, 0)) from by rw [blk_setCell (blk_setCell Q7.out 0 _) 1 _]; rfl)
          have B8 := Lib.hid (show ((w7.setCell ⟨b8, 0, none⟩ (.iface 25 (.agg #[.int .i64 q.1, .int .i64 q.2.1, .int .i64 q.2.2]))).setCell ⟨b8, 1, none⟩ (fl (kw q))).heap[b2]? = _ from (blk_setCell_ne h28 _ _).trans ((blk_setCell_ne h28 _ _).trans B7.out))
          clear H7 Q7 B7
          go_wp2_with fail
          clear C8 F8 g0 g1
          generalize World.setCell _ _ (fl (kw q)) = w8 at *
          by_cases hr : rt < n
          · obtain ⟨r, hrr⟩ : ∃ r, H[rt]? = some r := ⟨_, List.getElem?_eq_getElem (by have := H8.out.len; omega)⟩
            have HQr := Lib.hid hrr
            obtain ⟨g0', g1⟩ := H8.out.cells hrr
            have g0 : w8.cell? ⟨g, rt * 2, none⟩ = some (.iface 25 (.agg #[.int .i64 r.1, .int .i64 r.2.1, .int .i64 r.2.2])) := g0'
            clear g0'
            have L1 := fun e : Later w8 => cell_of_blk (Ext.blk e.h Q8.out)
            have L2 := fun e : Later w8 => e.h.cell g1
            have dr : decide ((rt : Int) < n) = true := by simp; omega
            have hk := HKEY.out q r (HSM.out _ (HP.out.mem_iff.1 (List.mem_cons_of_mem _ (List.mem_of_getElem? HQl.out)))) (HSM.out _ (HP.out.mem_iff.1 (List.mem_cons_of_mem _ (List.mem_of_getElem? hrr))))
            clear hrr
            by_cases hxr : d q < d r
            · have hd : decide (d q < d r) = true := by simpa using hxr
              rw [hd] at hk
              clear hd
              refine region_ext (by kernel_rfl) (by kernel_rfl) (fun hc => ?_)
              repeat (go_big_quiet_step (fail))
              refine wpQuiet_nil ?_
              rintro w9 ⟨⟨_, hw⟩, rfl⟩
              have H9 := Lib.hid (H8.out.ext hw); have Q9 := Lib.hid (Ext.blk hw Q8.out); have B9 := Lib.hid (Ext.blk hw B8.out)
              clear L1 L2 hc hw H8 Q8 B8
              clear dr hk g1
              have C8 := cell_of_blk Q9.out
              have F8 := free_of_blk Q9.out
              obtain ⟨g0', g1⟩ := H9.out.cells HQr.out
              have g0 : w9.cell? ⟨g, rt * 2, none⟩ = some (.iface 25 (.agg #[.int .i64 r.1, .int .i64 r.2.1, .int .i64 r.2.2])) := g0'
              clear g0'
              have Ha := Lib.hid ((H9.out.other hb8 h8a h8g 0 (.iface 25 (.agg #[.int .i64 r.1, .int .i64 r.2.1, .int .i64 r.2.2]))).other hb8 h8a h8g 1 (fl (kw r)))
              have Qa := Lib.hid (show ((w9.setCell ⟨b8, 0, none⟩ (.iface 25 (.agg #[.int .i64 r.1, .int .i64 r.2.1, .int .i64 r.2.2]))).setCell ⟨b8, 1, none⟩ (fl (kw r))).heap[b8]? = some (.cells #[.iface 25 (.agg #[.int .i64 r.1, .int .i64 r.2.1, .int .i64 r.2.2]), fl (kw r)] 118 (0, 0)) from by rw [blk_setCell (blk_setCell Q9.out 0 _) 1 _]; rfl)
              have Ba := Lib.hid (show ((w9.setCell ⟨b8, 0, none⟩ (.iface 25 (.agg #[.int .i64 r.1, .int .i64 r.2.1, .int .i64 r.2.2]))).setCell ⟨b8, 1, none⟩ (fl (kw r))).heap[b2]? = _ from (blk_setCell_ne h28 _ _).trans ((blk_setCell_ne h28 _ _).trans B9.out))
              clear H9 Q9 B9
              go_upto_region 17 with fail
              clear C8 F8 g0 g1
              generalize World.setCell _ _ (fl (kw r)) = wa at *
              have dne : ((rt : Int) == (i : Int)) = false := by simp; have := HRT.out; have := HLF.out; omega
              have CQ := cell_of_blk Qa.out
              have CB := cell_of_blk Ba.out
              have FR := Ha.out.own.frozenAt
              obtain ⟨e0', e1⟩ := Ha.out.cells HPI.out
              obtain ⟨f0', f1⟩ := Ha.out.cells HQr.out
              have hcin : rt < n := by omega
              have HZ := Lib.hid (show HL R w ((((wa.setCell ⟨g, i * 2, none⟩ (.iface 25 (.agg #[.int .i64 r.1, .int .i64 r.2.1, .int .i64 r.2.2]))).setCell ⟨g, i * 2 + 1, none⟩ (fl (kw r))).setCell ⟨g, rt * 2, none⟩ (.iface 25 (.agg #[.int .i64 l.1, .int .i64 l.2.1, .int .i64 l.2.2]))).setCell ⟨g, rt * 2 + 1, none⟩ (fl (kw l))) a g K n c0 c1 c2 c3 c5 c6 (hcs kw ((H.set i r).set rt l)) from (Ha.out.put (by omega) r).put hcin l)
              have BZ := Lib.hid (show ((((wa.setCell ⟨g, i * 2, none⟩ (.iface 25 (.agg #[.int .i64 r.1, .int .i64 r.2.1, .int .i64 r.2.2]))).setCell ⟨g, i * 2 + 1, none⟩ (fl (kw r))).setCell ⟨g, rt * 2, none⟩ (.iface 25 (.agg #[.int .i64 l.1, .int .i64 l.2.1, .int .i64 l.2.2]))).setCell ⟨g, rt * 2 + 1, none⟩ (fl (kw l))).heap[b2]? = _ from (blk_setCell_ne ht2 _ _).trans ((blk_setCell_ne ht2 _ _).trans ((blk_setCell_ne ht2 _ _).trans ((blk_setCell_ne ht2 _ _).trans Ba.out))))
              have hlH := Lib.hid Ha.out.len
              clear Ha Qa Ba
              go_wp2_with fail
              go_roundg (n - rt)
              case measure => have := HRI.out; have := HRT.out; have := HLF.out; omega
              case rel =>
                refine ⟨rt, (H.set i r).set rt l, rfl, hcin, rfl, ?_, ?_, ?_, HZ.out, BZ.out⟩
                · rw [List.getElem?_set_self (by rw [List.length_set]; have := hlH.out; omega)]
                · refine HD.out.step HPI.out HQr.out (by have := HRT.out; have := HLF.out; omega) (by have := HRT.out; have := HLF.out; omega) (by omega) (fun j hj0 hjl hjp => ?_)
                  have hj : j = lf ∨ j = rt := by have := HRT.out; have := HLF.out; omega
                  rcases hj with rfl | rfl
                  · rw [kv_of HQl.out]; omega
                  · rw [kv_of HQr.out]; exact Int.le_refl _
                · exact (List.Perm.cons t (swap_perm HPI.out HQr.out)).trans HP.out
            · have hd : decide (d q < d r) = false := by simpa using hxr
              rw [hd] at hk
              clear hd
              refine region_ext (by kernel_rfl) (by kernel_rfl) (fun hc => ?_)
              repeat (go_big_quiet_step (fail))
              refine wpQuiet_nil ?_
              rintro w9 ⟨⟨_, hw⟩, rfl⟩
              have H9 := Lib.hid (H8.out.ext hw); have Q9 := Lib.hid (Ext.blk hw Q8.out); have B9 := Lib.hid (Ext.blk hw B8.out)
              clear L1 L2 hc hw H8 Q8 B8
              clear dr hk g1 g0
              go_upto_region 17 with fail
              have dne : ((lf : Int) == (i : Int)) = false := by simp; have := HRT.out; have := HLF.out; omega
              have CQ := cell_of_blk Q9.out
              have CB := cell_of_blk B9.out
              have FR := H9.out.own.frozenAt
              obtain ⟨e0', e1⟩ := H9.out.cells HPI.out
              obtain ⟨f0', f1⟩ := H9.out.cells HQl.out
              have hcin : lf < n := by omega
              have HZ := Lib.hid (show HL R w ((((w9.setCell ⟨g, i * 2, none⟩ (.iface 25 (.agg #[.int .i64 q.1, .int .i64 q.2.1, .int .i64 q.2.2]))).setCell ⟨g, i * 2 + 1, none⟩ (fl (kw q))).setCell ⟨g, lf * 2, none⟩ (.iface 25 (.agg #[.int .i64 l.1, .int .i64 l.2.1, .int .i64 l.2.2]))).setCell ⟨g, lf * 2 + 1, none⟩ (fl (kw l))) a g K n c0 c1 c2 c3 c5 c6 (hcs kw ((H.set i q).set lf l)) from (H9.out.put (by omega) q).put hcin l)
              have BZ := Lib.hid (show ((((w9.setCell ⟨g, i * 2, none⟩ (.iface 25 (.agg #[.int .i64 q.1, .int .i64 q.2.1, .int .i64 q.2.2]))).setCell ⟨g, i * 2 + 1, none⟩ (fl (kw q))).setCell ⟨g, lf * 2, none⟩ (.iface 25 (.agg #[.int .i64 l.1, .int .i64 l.2.1, .int .i64 l.2.2]))).setCell ⟨g, lf * 2 + 1, none⟩ (fl (kw l))).heap[b2]? = _ from (blk_setCell_ne ht2 _ _).trans ((blk_setCell_ne ht2 _ _).trans ((blk_setCell_ne ht2 _ _).trans ((blk_setCell_ne ht2 _ _).trans B9.out))))
              have hlH := Lib.hid H9.out.len
              clear H9 Q9 B9
              go_wp2_with fail
              go_roundg (n - lf)
              case measure => have := HRI.out; have := HRT.out; have := HLF.out; omega
              case rel =>
                refine ⟨lf, (H.set i q).set lf l, rfl, hcin, rfl, ?_, ?_, ?_, HZ.out, BZ.out⟩
                · rw [List.getElem?_set_self (by rw [List.length_set]; have := hlH.out; omega)]
                · refine HD.out.step HPI.out HQl.out (by have := HRT.out; have := HLF.out; omega) (by have := HRT.out; have := HLF.out; omega) (by omega) (fun j hj0 hjl hjp => ?_)
                  have hj : j = lf ∨ j = rt := by have := HRT.out; have := HLF.out; omega
                  rcases hj with rfl | rfl
                  · rw [kv_of HQl.out]; exact Int.le_refl _
                  · rw [kv_of HQr.out]; omega
                · exact (List.Perm.cons t (swap_perm HPI.out HQl.out)).trans HP.out
          · have dr : decide ((rt : Int) < n) = false := by simp; omega
            have L1 := fun e : Later w8 => cell_of_blk (Ext.blk e.h Q8.out)
            have L2 := True.intro
            refine region_ext (by kernel_rfl) (by kernel_rfl) (fun hc => ?_)
            repeat (go_big_quiet_step (fail))
            refine wpQuiet_nil ?_
            rintro w9 ⟨⟨_, hw⟩, rfl⟩
            have H9 := Lib.hid (H8.out.ext hw); have Q9 := Lib.hid (Ext.blk hw Q8.out); have B9 := Lib.hid (Ext.blk hw B8.out)
            clear L1 L2 hc hw H8 Q8 B8
            clear dr
            go_upto_region 17 with fail
            have dne : ((lf : Int) == (i : Int)) = false := by simp; have := HRT.out; have := HLF.out; omega
            have CQ := cell_of_blk Q9.out
            have CB := cell_of_blk B9.out
            have FR := H9.out.own.frozenAt
            obtain ⟨e0', e1⟩ := H9.out.cells HPI.out
            obtain ⟨f0', f1⟩ := H9.out.cells HQl.out
            have hcin : lf < n := by omega
            have HZ := Lib.hid (show HL R w ((((w9.setCell ⟨g, i * 2, none⟩ (.iface 25 (.agg #[.int .i64 q.1, .int .i64 q.2.1, .int .i64 q.2.2]))).setCell ⟨g, i * 2 + 1, none⟩ (fl (kw q))).setCell ⟨g, lf * 2, none⟩ (.iface 25 (.agg #[.int .i64 l.1, .int .i64 l.2.1, .int .i64 l.2.2]))).setCell ⟨g, lf * 2 + 1, none⟩ (fl (kw l))) a g K n c0 c1 c2 c3 c5 c6 (hcs kw ((H.set i q).set lf l)) from (H9.out.put (by omega) q).put hcin l)
            have BZ := Lib.hid (show ((((w9.setCell ⟨g, i * 2, none⟩ (.iface 25 (.agg #[.int .i64 q.1, .int .i64 q.2.1, .int .i64 q.2.2]))).setCell ⟨g, i * 2 + 1, none⟩ (fl (kw q))).setCell ⟨g, lf * 2, none⟩ (.iface 25 (.agg #[.int .i64 l.1, .int .i64 l.2.1, .int .i64 l.2.2]))).setCell ⟨g, lf * 2 + 1, none⟩ (fl (kw l))).heap[b2]? = _ from (blk_setCell_ne ht2 _ _).trans ((blk_setCell_ne ht2 _ _).trans ((blk_setCell_ne ht2 _ _).trans ((blk_setCell_ne ht2 _ _).trans B9.out))))
            have hlH := Lib.hid H9.out.len
            clear H9 Q9 B9
            go_wp2_with fail
            go_roundg (n - lf)
            case measure => have := HRI.out; have := HRT.out; have := HLF.out; omega
            case rel =>
              refine ⟨lf, (H.set i q).set lf l, rfl, hcin, rfl, ?_, ?_, ?_, HZ.out, BZ.out⟩
              · rw [List.getElem?_set_self (by rw [List.length_set]; have := hlH.out; omega)]
              · refine HD.out.step HPI.out HQl.out (by have := HRT.out; have := HLF.out; omega) (by have := HRT.out; have := HLF.out; omega) (by omega) (fun j hj0 hjl hjp => ?_)
                have hj : j = lf ∨ j = rt := by have := HRT.out; have := HLF.out; omega
                rcases hj with rfl | rfl
                · rw [kv_of HQl.out]; exact Int.le_refl _
                · (have := hlH.out; omega)
              · exact (List.Perm.cons t (swap_perm HPI.out HQl.out)).trans HP.out
        · have hd : decide (d l < d q) = false := by simpa using hlq
          rw [hd] at hk
          clear hd
          refine region_ext (by kernel_rfl) (by kernel_rfl) (fun hc => ?_)
          repeat (go_big_quiet_step (fail))
          refine wpQuiet_nil ?_
          rintro w7 ⟨⟨_, hw⟩, rfl⟩
          have H7 := Lib.hid (H6.out.ext hw); have Q7 := Lib.hid (Ext.blk hw Q6.out); have B7 := Lib.hid (Ext.blk hw B6.out)
          clear L1 L2 hc hw H6 Q6 B6
          clear dl hk g1 g0
          go_wp2_with fail
          by_cases hr : rt < n
          · obtain ⟨r, hrr⟩ : ∃ r, H[rt]? = some r := ⟨_, List.getElem?_eq_getElem (by have := H7.out.len; omega)⟩
            have HQr := Lib.hid hrr
            obtain ⟨g0', g1⟩ := H7.out.cells hrr
            have g0 : w7.cell? ⟨g, rt * 2, none⟩ = some (.iface 25 (.agg #[.int .i64 r.1, .int .i64 r.2.1, .int .i64 r.2.2])) := g0'
            clear g0'
            have L1 := fun e : Later w7 => cell_of_blk (Ext.blk e.h Q7.out)
            have L2 := fun e : Later w7 => e.h.cell g1
            have dr : decide ((rt : Int) < n) = true := by simp; omega
            have hk := HKEY.out l r (HSM.out _ (HP.out.mem_iff.1 (List.mem_cons_of_mem _ (List.mem_of_getElem? HPI.out)))) (HSM.out _ (HP.out.mem_iff.1 (List.mem_cons_of_mem _ (List.mem_of_getElem? hrr))))
            clear hrr
            by_cases hxr : d l < d r
            · have hd : decide (d l < d r) = true := by simpa using hxr
              rw [hd] at hk
              clear hd
              refine region_ext (by kernel_rfl) (by kernel_rfl) (fun hc => ?_)
              repeat (go_big_quiet_step (fail))
              refine wpQuiet_nil ?_
              rintro w9 ⟨⟨_, hw⟩, rfl⟩
              have H9 := Lib.hid (H7.out.ext hw); have Q9 := Lib.hid (Ext.blk hw Q7.out); have B9 := Lib.hid (Ext.blk hw B7.out)
              clear L1 L2 hc hw H7 Q7 B7
              clear dr hk g1
              have C8 := cell_of_blk Q9.out
              have F8 := free_of_blk Q9.out
              obtain ⟨g0', g1⟩ := H9.out.cells HQr.out
              have g0 : w9.cell? ⟨g, rt * 2, none⟩ = some (.iface 25 (.agg #[.int .i64 r.1, .int .i64 r.2.1, .int .i64 r.2.2])) := g0'
              clear g0'
              have Ha := Lib.hid ((H9.out.other hb8 h8a h8g 0 (.iface 25 (.agg #[.int .i64 r.1, .int .i64 r.2.1, .int .i64 r.2.2]))).other hb8 h8a h8g 1 (fl (kw r)))
              have Qa := Lib.hid (show ((w9.setCell ⟨b8, 0, none⟩ (.iface 25 (.agg #[.int .i64 r.1, .int .i64 r.2.1, .int .i64 r.2.2]))).setCell ⟨b8, 1, none⟩ (fl (kw r))).heap[b8]? = some (.cells #[.iface 25 (.agg #[.int .i64 r.1, .int .i64 r.2.1, .int .i64 r.2.2]), fl (kw r)] 118 (0, 0)) from by rw [blk_setCell (blk_setCell Q9.out 0 _) 1 _]; rfl)
              have Ba := Lib.hid (show ((w9.setCell ⟨b8, 0, none⟩ (.iface 25 (.agg #[.int .i64 r.1, .int .i64 r.2.1, .int .i64 r.2.2]))).setCell ⟨b8, 1, none⟩ (fl (kw r))).heap[b2]? = _ from (blk_setCell_ne h28 _ _).trans ((blk_setCell_ne h28 _ _).trans B9.out))
              clear H9 Q9 B9
              go_upto_region 17 with fail
              clear C8 F8 g0 g1
              generalize World.setCell _ _ (fl (kw r)) = wa at *
              have dne : ((rt : Int) == (i : Int)) = false := by simp; have := HRT.out; have := HLF.out; omega
              have CQ := cell_of_blk Qa.out
              have CB := cell_of_blk Ba.out
              have FR := Ha.out.own.frozenAt
              obtain ⟨e0', e1⟩ := Ha.out.cells HPI.out
              obtain ⟨f0', f1⟩ := Ha.out.cells HQr.out
              have hcin : rt < n := by omega
              have HZ := Lib.hid (show HL R w ((((wa.setCell ⟨g, i * 2, none⟩ (.iface 25 (.agg #[.int .i64 r.1, .int .i64 r.2.1, .int .i64 r.2.2]))).setCell ⟨g, i * 2 + 1, none⟩ (fl (kw r))).setCell ⟨g, rt * 2, none⟩ (.iface 25 (.agg #[.int .i64 l.1, .int .i64 l.2.1, .int .i64 l.2.2]))).setCell ⟨g, rt * 2 + 1, none⟩ (fl (kw l))) a g K n c0 c1 c2 c3 c5 c6 (hcs kw ((H.set i r).set rt l)) from (Ha.out.put (by omega) r).put hcin l)
              have BZ := Lib.hid (show ((((wa.setCell ⟨g, i * 2, none⟩ (.iface 25 (.agg #[.int .i64 r.1, .int .i64 r.2.1, .int .i64 r.2.2]))).setCell ⟨g, i * 2 + 1, none⟩ (fl (kw r))).setCell ⟨g, rt * 2, none⟩ (.iface 25 (.agg #[.int .i64 l.1, .int .i64 l.2.1, .int .i64 l.2.2]))).setCell ⟨g, rt * 2 + 1, none⟩ (fl (kw l))).heap[b2]? = _ from (blk_setCell_ne ht2 _ _).trans ((blk_setCell_ne ht2 _ _).trans ((blk_setCell_ne ht2 _ _).trans ((blk_setCell_ne ht2 _ _).trans Ba.out))))
              have hlH := Lib.hid Ha.out.len
              clear Ha Qa Ba
              go_wp2_with fail
              go_roundg (n - rt)
              case measure => have := HRI.out; have := HRT.out; have := HLF.out; omega
              case rel =>
                refine ⟨rt, (H.set i r).set rt l, rfl, hcin, rfl, ?_, ?_, ?_, HZ.out, BZ.out⟩
                · rw [List.getElem?_set_self (by rw [List.length_set]; have := hlH.out; omega)]
                · refine HD.out.step HPI.out HQr.out (by have := HRT.out; have := HLF.out; omega) (by have := HRT.out; have := HLF.out; omega) (by omega) (fun j hj0 hjl hjp => ?_)
                  have hj : j = lf ∨ j = rt := by have := HRT.out; have := HLF.out; omega
                  rcases hj with rfl | rfl
                  · rw [kv_of HQl.out]; omega
                  · rw [kv_of HQr.out]; exact Int.le_refl _
                · exact (List.Perm.cons t (swap_perm HPI.out HQr.out)).trans HP.out
            · have hd : decide (d l < d r) = false := by simpa using hxr
              rw [hd] at hk
              clear hd
              refine region_ext (by kernel_rfl) (by kernel_rfl) (fun hc => ?_)
              repeat (go_big_quiet_step (fail))
              refine wpQuiet_nil ?_
              rintro w9 ⟨⟨_, hw⟩, rfl⟩
              have H9 := Lib.hid (H7.out.ext hw); have Q9 := Lib.hid (Ext.blk hw Q7.out); have B9 := Lib.hid (Ext.blk hw B7.out)
              clear L1 L2 hc hw H7 Q7 B7
              clear dr hk g1 g0
              go_upto_region 17 with fail
              have FIN := Lib.hid (show PopSays R a g K n c0 c1 c2 c3 c5 c6 kw d (H0 ++ [l]) t w (.returned (.tuple #[])) w9 from
                ⟨rfl, H, H9.out, HP.out, HD.out.done (fun j hj0 hjl hjp => by
                  have hln := H9.out.len
                  have hj : j = lf ∨ j = rt := by have := HRT.out; have := HLF.out; omega
                  rw [kv_of HPI.out]
                  rcases hj with rfl | rfl
                  · rw [kv_of HQl.out]; omega
                  · rw [kv_of HQr.out]; omega)⟩)
              go_wp2_with fail
              exact bodyPost_ret (v := .tuple #[]) (by simp [results, Tryd.results55, go_sem]) rfl FIN.out
          · have dr : decide ((rt : Int) < n) = false := by simp; omega
            have L1 := fun e : Later w7 => cell_of_blk (Ext.blk e.h Q7.out)
            have L2 := True.intro
            refine region_ext (by kernel_rfl) (by kernel_rfl) (fun hc => ?_)
            repeat (go_big_quiet_step (fail))
            refine wpQuiet_nil ?_
            rintro w9 ⟨⟨_, hw⟩, rfl⟩
            have H9 := Lib.hid (H7.out.ext hw); have Q9 := Lib.hid (Ext.blk hw Q7.out); have B9 := Lib.hid (Ext.blk hw B7.out)
            clear L1 L2 hc hw H7 Q7 B7
            clear dr
            go_upto_region 17 with fail
            have FIN := Lib.hid (show PopSays R a g K n c0 c1 c2 c3 c5 c6 kw d (H0 ++ [l]) t w (.returned (.tuple #[])) w9 from
              ⟨rfl, H, H9.out, HP.out, HD.out.done (fun j hj0 hjl hjp => by
                have hln := H9.out.len
                have hj : j = lf ∨ j = rt := by have := HRT.out; have := HLF.out; omega
                rw [kv_of HPI.out]
                rcases hj with rfl | rfl
                · rw [kv_of HQl.out]; omega
                · omega)⟩)
            go_wp2_with fail
            exact bodyPost_ret (v := .tuple #[]) (by simp [results, Tryd.results55, go_sem]) rfl FIN.out
      · have dl : decide ((lf : Int) < n) = false := by simp; omega
        have L1 := fun e : Later wb => cell_of_blk (Ext.blk e.h Q6.out)
        have L2 := True.intro
        refine region_ext (by kernel_rfl) (by kernel_rfl) (fun hc => ?_)
        repeat (go_big_quiet_step (fail))
        refine wpQuiet_nil ?_
        rintro w7 ⟨⟨_, hw⟩, rfl⟩
        have H7 := Lib.hid (H6.out.ext hw); have Q7 := Lib.hid (Ext.blk hw Q6.out); have B7 := Lib.hid (Ext.blk hw B6.out)
        clear L1 L2 hc hw H6 Q6 B6
        clear dl
        go_wp2_with fail
        have hr : ¬ rt < n := by have := HLR.out; omega
        have dr : decide ((rt : Int) < n) = false := by simp; have := HLR.out; omega
        have L1 := fun e : Later w7 => cell_of_blk (Ext.blk e.h Q7.out)
        have L2 := True.intro
        refine region_ext (by kernel_rfl) (by kernel_rfl) (fun hc => ?_)
        repeat (go_big_quiet_step (fail))
        refine wpQuiet_nil ?_
        rintro w9 ⟨⟨_, hw⟩, rfl⟩
        have H9 := Lib.hid (H7.out.ext hw); have Q9 := Lib.hid (Ext.blk hw Q7.out); have B9 := Lib.hid (Ext.blk hw B7.out)
        clear L1 L2 hc hw H7 Q7 B7
        clear dr
        go_upto_region 17 with fail
        have FIN := Lib.hid (show PopSays R a g K n c0 c1 c2 c3 c5 c6 kw d (H0 ++ [l]) t w (.returned (.tuple #[])) w9 from
          ⟨rfl, H, H9.out, HP.out, HD.out.done (fun j hj0 hjl hjp => by
            have hln := H9.out.len
            have hj : j = lf ∨ j = rt := by have := HRT.out; have := HLF.out; omega
            rw [kv_of HPI.out]
            rcases hj with rfl | rfl
            · omega
            · (have := HLR.out; omega))⟩)
        go_wp2_with fail
        exact bodyPost_ret (v := .tuple #[]) (by simp [results, Tryd.results55, go_sem]) rfl FIN.out

end Go.Proofs.YtmmmknmncdlopaaDoor
