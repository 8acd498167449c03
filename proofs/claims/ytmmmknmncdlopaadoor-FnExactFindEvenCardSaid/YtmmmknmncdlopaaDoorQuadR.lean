/- (*Quadtree).Matching and Find. Condition: no more than a million items. -/
import Derived.Test.YtmmmknmncdlopaaDoorQuadP
namespace Go.Proofs.YtmmmknmncdlopaaDoor
open Go.ChangeShapes Go.WideShapes Go.ChangeAt Go.RowKit
open Go.Proofs.YtmmmknmncdlopaaDoor.F

/-- What Matching hands back: an item that the filter takes and than which none is nearer; none if there is none. -/
def NearSays (f : T3 → Bool) (x y : Int) (t : Tr) (w : World) (e : Ending) (w' : World) : Prop :=
  ((e = .returned .nilIface ∧ ∀ p ∈ its t, f p = false) ∨ (∃ p, e = .returned (iv (some p)) ∧ p ∈ its t ∧ f p = true ∧ ∀ r ∈ its t, f r = true → dsq x y p ≤ dsq x y r)) ∧ Ext w w'

set_option maxRecDepth 8000 in
set_option maxHeartbeats 6400000 in
theorem match_top {B q l b r tp : Nat} {t : Tr} {w : World} {fv : Value} {f : T3 → Bool} {Q : World → Prop} {x y : Int} (hx : x.natAbs ≤ 65536) (hy : y.natAbs ≤ 65536) (T : Tree w B q l b r tp t) (hF : Fil fv f Q) (hfv : fv = .nilFunc ∨ ∃ F, fv = .func (.func F) #[] #[]) (hQ : Q w) (hQk : ∀ w1 w2, Q w1 → Below w.heap.size w1 w2 → Q w2) (hN : (nds t).length ≤ 1048576) :
    Calls Tryd.prog 37 #[pt q, .agg #[fl (I x), fl (I y)], fv] w (NearSays f x y t w) := by
  have HT := Lib.hid T; have HF := Lib.hid hF; have HQ := Lib.hid hQ; have HQK := Lib.hid hQk; have HN := Lib.hid hN; have HX := Lib.hid hx; have HY := Lib.hid hy
  clear hF hQ hQk hN hx hy
  have hq : q < w.heap.size := T.lt
  have st := st_fl
  rcases t with _ | ⟨k, u, c0, c1, c2, c3⟩
  · have CQ := cell_of_blk (show w.heap[q]? = some (.cells #[fl l, fl b, fl r, fl tp, .pointer none] 95 (0, 0)) from T.hq)
    clear T
    go_enter Tryd.func37, Tryd.ntmps37
    go_wp2_with fail
    go_ret
    exact ⟨.inl ⟨rfl, by simp [its, nds]⟩, (Ext.refl _).alloc _⟩
  · have CQ := cell_of_blk (show w.heap[q]? = some (.cells #[fl l, fl b, fl r, fl tp, pt k] 95 (0, 0)) from T.hq)
    clear T
    rcases hfv with rfl | ⟨F, rfl⟩
    · go_enter Tryd.func37, Tryd.ntmps37
      go_wp2_with fail
      clear CQ
      have X := Lib.hid ((((Ext.refl w).alloc (.cells #[fl (I x), fl (I y)] 64)).alloc (.cells #[fl l, fl b, fl r, fl tp] 67)).alloc (.cells #[fl (I x), fl (I y), .nilFunc, .pointer none, pt (w.heap.size + 1), fl 9218868437227405311] 99))
      have KB := Lib.hid (blk_old (blk_new (w.alloc (.cells #[fl (I x), fl (I y)] 64)) (.cells #[fl l, fl b, fl r, fl tp] 67)) (.cells #[fl (I x), fl (I y), .nilFunc, .pointer none, pt (w.heap.size + 1), fl 9218868437227405311] 99))
      have KA := Lib.hid (blk_new ((w.alloc (.cells #[fl (I x), fl (I y)] 64)).alloc (.cells #[fl l, fl b, fl r, fl tp] 67)) (.cells #[fl (I x), fl (I y), .nilFunc, .pointer none, pt (w.heap.size + 1), fl 9218868437227405311] 99))
      have HSZ : (((w.alloc (.cells #[fl (I x), fl (I y)] 64)).alloc (.cells #[fl l, fl b, fl r, fl tp] 67)).alloc (.cells #[fl (I x), fl (I y), .nilFunc, .pointer none, pt (w.heap.size + 1), fl 9218868437227405311] 99)).heap.size = w.heap.size + 3 := by simp
      generalize (((w.alloc (.cells #[fl (I x), fl (I y)] 64)).alloc (.cells #[fl l, fl b, fl r, fl tp] 67)).alloc (.cells #[fl (I x), fl (I y), .nilFunc, .pointer none, pt (w.heap.size + 1), fl 9218868437227405311] 99)) = wb at *
      have KA' : wb.heap[w.heap.size + 2]? = some (.cells #[fl (I x), fl (I y), .nilFunc, .pointer none, pt (w.heap.size + 1), fl 9218868437227405311] 99 (0, 0)) := by have := KA.out; simpa using this
      have KB' : wb.heap[w.heap.size + 1]? = some (.cells #[fl l, fl b, fl r, fl tp] 67 (0, 0)) := by have := KB.out; simpa using this
      have TB := Lib.hid (HT.out.ext X.out)
      have HS := Lib.hid (show ∀ w' : World, w'.heap[q]? = wb.heap[q]? → (w'.cell? ⟨q, 0, none⟩ = some (fl l) ∧ w'.cell? ⟨q, 1, none⟩ = some (fl b) ∧ w'.cell? ⟨q, 2, none⟩ = some (fl r) ∧ w'.cell? ⟨q, 3, none⟩ = some (fl tp) ∧ w'.cell? ⟨q, 4, none⟩ = some (pt k)) from fun w' h => by
        have c := cell_of_blk (h.trans TB.out.hq)
        exact ⟨c 0, c 1, c 2, c 3, c 4⟩)
      have hqb : q < wb.heap.size := TB.out.lt
      have HSZ2 := Lib.hid HSZ
      have V := Lib.hid (fin_vis (a := w.heap.size + 2) (v := wb.heap.size) (kb := w.heap.size + 1) (B := w.heap.size) (b0 := (l, b, r, tp)) 1048576 HX.out HY.out HF.out HQK.out ⟨by omega, by omega, by omega, by omega, by omega⟩)
      have KV := Lib.hid (blk_new wb (.cells #[.iface 96 (pt (w.heap.size + 2))] 122))
      have P0 := Lib.hid (show ∃ c m bx, FinP (w.heap.size + 2) wb.heap.size (w.heap.size + 1) w.heap.size x y (.nilFunc) f Q (l, b, r, tp) (wb.drew.alloc (.cells #[.iface 96 (pt (w.heap.size + 2))] 122)) [] c m bx from
        ⟨none, maxF, (l, b, r, tp), KV.out, (blk_old KA' _ : (wb.alloc _).heap[w.heap.size + 2]? = _), (blk_old KB' _ : (wb.alloc _).heap[w.heap.size + 1]? = _), HQK.out _ _ HQ.out ((X.out.drew).alloc _), by simp; omega, ⟨HT.out.bd.1.1, HT.out.bd.2.2.1.1, HT.out.bd.2.1.1, HT.out.bd.2.2.2.1⟩, rfl, rfl, fun _ h => by cases h⟩)
      have TV := Lib.hid (TB.out.frame (w' := wb.drew.alloc (.cells #[.iface 96 (pt (w.heap.size + 2))] 122)) fun j hj => heap_alloc_old wb.drew _ hj)
      have HLT := Lib.hid (fun j hj => HT.out.at'.lt j hj)
      clear KA KB KA' KB' HSZ
      go_region_held3 (fun w' => w'.cell? ⟨q, 0, none⟩ = some (fl l) ∧ w'.cell? ⟨q, 1, none⟩ = some (fl b) ∧ w'.cell? ⟨q, 2, none⟩ = some (fl r) ∧ w'.cell? ⟨q, 3, none⟩ = some (fl tp) ∧ w'.cell? ⟨q, 4, none⟩ = some (pt k))
        (first | exact HS.out _ rfl | exact HS.out _ (heap_alloc_old _ _ hqb) | exact HS.out _ HQV)
        (first
          | (go_at_call 48
             refine (newvisit_any _ _ _).mono ?_
             rintro e w4 ⟨rfl, rfl⟩)
          | (go_at_call 49
             refine (visit_any V.out (.node k u c0 c1 c2 c3) l r b tp _ [] (by simp) TV.out.at' HLT.out TV.out.reg TV.out.sm TV.out.bd.1 TV.out.bd.2.1 TV.out.bd.2.2.1 TV.out.bd.2.2.2 P0.out (by simpa using HN.out)).mono ?_
             rintro e w5 ⟨rfl, hP5, hb5⟩
             have HP5 := Lib.hid hP5
             have HB5 := Lib.hid hb5
             have HQV : w5.heap[q]? = wb.heap[q]? := (hb5.block q hq).trans (heap_alloc_old wb.drew _ hqb)
             clear hP5 hb5))
      have B5 := Lib.hid (Below.trans (show Below w.heap.size w _ from (X.out.drew).alloc _) HB5.out)
      obtain ⟨c, m, bx, hp⟩ := HP5.out
      have T5 := Lib.hid (HT.out.frame fun j hj => B5.out.block j hj)
      clear HP5 HQV TV P0 KV V HS TB hqb
      rcases c with _ | n
      · have CA := cell_of_blk (show w5.heap[w.heap.size + 2]? = some (.cells #[fl (I x), fl (I y), .nilFunc, .pointer none, pt (w.heap.size + 1), fl m] 99 (0, 0)) from hp.ha)
        have FIN := Lib.hid (show NearSays f x y (.node k u c0 c1 c2 c3) w (.returned .nilIface) w5 from by
          refine ⟨.inl ⟨rfl, fun p hm => ?_⟩, B5.out⟩
          obtain ⟨p, hp1, rfl⟩ := List.mem_map.1 hm
          rw [← Bool.not_eq_true]
          intro hfp
          have h1 := hp.inv.2.2 p (List.mem_append.2 (.inl hp1)) hfp
          have h2 := inr_iff.2 (reg_its HT.out.reg p.2 hm)
          rw [outB_of h1] at h2; cases h2)
        clear hp
        go_wp2_with fail
        go_ret
        exact FIN.out
      · have CA := cell_of_blk (show w5.heap[w.heap.size + 2]? = some (.cells #[fl (I x), fl (I y), .nilFunc, pt n.1, pt (w.heap.size + 1), fl m] 99 (0, 0)) from hp.ha)
        have hn : n ∈ nds (.node k u c0 c1 c2 c3) := by have := hp.inv.1; rwa [List.append_nil] at this
        obtain ⟨d0, d1, d2, d3, l', r', b', tp', g1, _⟩ := sub_ex w5 n (.node k u c0 c1 c2 c3) l r b tp hn T5.out.reg T5.out.nd T5.out.at'
        have CN := cell_of_blk g1.1
        have FIN := Lib.hid (show NearSays f x y (.node k u c0 c1 c2 c3) w (.returned (iv (some n.2))) w5 from by
          refine ⟨.inr ⟨n.2, rfl, List.mem_map_of_mem hn, hp.inv.2.1, fun z hm hfz => ?_⟩, B5.out⟩
          obtain ⟨z, hz1, rfl⟩ := List.mem_map.1 hm
          rcases hp.inv.2.2.2.2.2 z (List.mem_append.2 (.inl hz1)) hfz with h1 | h1
          · have h2 := inr_iff.2 (reg_its HT.out.reg z.2 hm)
            rw [outB_of h1] at h2; cases h2
          · exact h1)
        clear g1 hn hp
        go_wp2_with fail
        go_ret
        exact FIN.out
    · go_enter Tryd.func37, Tryd.ntmps37
      go_wp2_with fail
      clear CQ
      have X := Lib.hid ((((Ext.refl w).alloc (.cells #[fl (I x), fl (I y)] 64)).alloc (.cells #[fl l, fl b, fl r, fl tp] 67)).alloc (.cells #[fl (I x), fl (I y), .func (.func F) #[] #[], .pointer none, pt (w.heap.size + 1), fl 9218868437227405311] 99))
      have KB := Lib.hid (blk_old (blk_new (w.alloc (.cells #[fl (I x), fl (I y)] 64)) (.cells #[fl l, fl b, fl r, fl tp] 67)) (.cells #[fl (I x), fl (I y), .func (.func F) #[] #[], .pointer none, pt (w.heap.size + 1), fl 9218868437227405311] 99))
      have KA := Lib.hid (blk_new ((w.alloc (.cells #[fl (I x), fl (I y)] 64)).alloc (.cells #[fl l, fl b, fl r, fl tp] 67)) (.cells #[fl (I x), fl (I y), .func (.func F) #[] #[], .pointer none, pt (w.heap.size + 1), fl 9218868437227405311] 99))
      have HSZ : (((w.alloc (.cells #[fl (I x), fl (I y)] 64)).alloc (.cells #[fl l, fl b, fl r, fl tp] 67)).alloc (.cells #[fl (I x), fl (I y), .func (.func F) #[] #[], .pointer none, pt (w.heap.size + 1), fl 9218868437227405311] 99)).heap.size = w.heap.size + 3 := by simp
      generalize (((w.alloc (.cells #[fl (I x), fl (I y)] 64)).alloc (.cells #[fl l, fl b, fl r, fl tp] 67)).alloc (.cells #[fl (I x), fl (I y), .func (.func F) #[] #[], .pointer none, pt (w.heap.size + 1), fl 9218868437227405311] 99)) = wb at *
      have KA' : wb.heap[w.heap.size + 2]? = some (.cells #[fl (I x), fl (I y), .func (.func F) #[] #[], .pointer none, pt (w.heap.size + 1), fl 9218868437227405311] 99 (0, 0)) := by have := KA.out; simpa using this
      have KB' : wb.heap[w.heap.size + 1]? = some (.cells #[fl l, fl b, fl r, fl tp] 67 (0, 0)) := by have := KB.out; simpa using this
      have TB := Lib.hid (HT.out.ext X.out)
      have HS := Lib.hid (show ∀ w' : World, w'.heap[q]? = wb.heap[q]? → (w'.cell? ⟨q, 0, none⟩ = some (fl l) ∧ w'.cell? ⟨q, 1, none⟩ = some (fl b) ∧ w'.cell? ⟨q, 2, none⟩ = some (fl r) ∧ w'.cell? ⟨q, 3, none⟩ = some (fl tp) ∧ w'.cell? ⟨q, 4, none⟩ = some (pt k)) from fun w' h => by
        have c := cell_of_blk (h.trans TB.out.hq)
        exact ⟨c 0, c 1, c 2, c 3, c 4⟩)
      have hqb : q < wb.heap.size := TB.out.lt
      have HSZ2 := Lib.hid HSZ
      have V := Lib.hid (fin_vis (a := w.heap.size + 2) (v := wb.heap.size) (kb := w.heap.size + 1) (B := w.heap.size) (b0 := (l, b, r, tp)) 1048576 HX.out HY.out HF.out HQK.out ⟨by omega, by omega, by omega, by omega, by omega⟩)
      have KV := Lib.hid (blk_new wb (.cells #[.iface 96 (pt (w.heap.size + 2))] 122))
      have P0 := Lib.hid (show ∃ c m bx, FinP (w.heap.size + 2) wb.heap.size (w.heap.size + 1) w.heap.size x y (.func (.func F) #[] #[]) f Q (l, b, r, tp) (wb.drew.alloc (.cells #[.iface 96 (pt (w.heap.size + 2))] 122)) [] c m bx from
        ⟨none, maxF, (l, b, r, tp), KV.out, (blk_old KA' _ : (wb.alloc _).heap[w.heap.size + 2]? = _), (blk_old KB' _ : (wb.alloc _).heap[w.heap.size + 1]? = _), HQK.out _ _ HQ.out ((X.out.drew).alloc _), by simp; omega, ⟨HT.out.bd.1.1, HT.out.bd.2.2.1.1, HT.out.bd.2.1.1, HT.out.bd.2.2.2.1⟩, rfl, rfl, fun _ h => by cases h⟩)
      have TV := Lib.hid (TB.out.frame (w' := wb.drew.alloc (.cells #[.iface 96 (pt (w.heap.size + 2))] 122)) fun j hj => heap_alloc_old wb.drew _ hj)
      have HLT := Lib.hid (fun j hj => HT.out.at'.lt j hj)
      clear KA KB KA' KB' HSZ
      go_region_held3 (fun w' => w'.cell? ⟨q, 0, none⟩ = some (fl l) ∧ w'.cell? ⟨q, 1, none⟩ = some (fl b) ∧ w'.cell? ⟨q, 2, none⟩ = some (fl r) ∧ w'.cell? ⟨q, 3, none⟩ = some (fl tp) ∧ w'.cell? ⟨q, 4, none⟩ = some (pt k))
        (first | exact HS.out _ rfl | exact HS.out _ (heap_alloc_old _ _ hqb) | exact HS.out _ HQV)
        (first
          | (go_at_call 48
             refine (newvisit_any _ _ _).mono ?_
             rintro e w4 ⟨rfl, rfl⟩)
          | (go_at_call 49
             refine (visit_any V.out (.node k u c0 c1 c2 c3) l r b tp _ [] (by simp) TV.out.at' HLT.out TV.out.reg TV.out.sm TV.out.bd.1 TV.out.bd.2.1 TV.out.bd.2.2.1 TV.out.bd.2.2.2 P0.out (by simpa using HN.out)).mono ?_
             rintro e w5 ⟨rfl, hP5, hb5⟩
             have HP5 := Lib.hid hP5
             have HB5 := Lib.hid hb5
             have HQV : w5.heap[q]? = wb.heap[q]? := (hb5.block q hq).trans (heap_alloc_old wb.drew _ hqb)
             clear hP5 hb5))
      have B5 := Lib.hid (Below.trans (show Below w.heap.size w _ from (X.out.drew).alloc _) HB5.out)
      obtain ⟨c, m, bx, hp⟩ := HP5.out
      have T5 := Lib.hid (HT.out.frame fun j hj => B5.out.block j hj)
      clear HP5 HQV TV P0 KV V HS TB hqb
      rcases c with _ | n
      · have CA := cell_of_blk (show w5.heap[w.heap.size + 2]? = some (.cells #[fl (I x), fl (I y), .func (.func F) #[] #[], .pointer none, pt (w.heap.size + 1), fl m] 99 (0, 0)) from hp.ha)
        have FIN := Lib.hid (show NearSays f x y (.node k u c0 c1 c2 c3) w (.returned .nilIface) w5 from by
          refine ⟨.inl ⟨rfl, fun p hm => ?_⟩, B5.out⟩
          obtain ⟨p, hp1, rfl⟩ := List.mem_map.1 hm
          rw [← Bool.not_eq_true]
          intro hfp
          have h1 := hp.inv.2.2 p (List.mem_append.2 (.inl hp1)) hfp
          have h2 := inr_iff.2 (reg_its HT.out.reg p.2 hm)
          rw [outB_of h1] at h2; cases h2)
        clear hp
        go_wp2_with fail
        go_ret
        exact FIN.out
      · have CA := cell_of_blk (show w5.heap[w.heap.size + 2]? = some (.cells #[fl (I x), fl (I y), .func (.func F) #[] #[], pt n.1, pt (w.heap.size + 1), fl m] 99 (0, 0)) from hp.ha)
        have hn : n ∈ nds (.node k u c0 c1 c2 c3) := by have := hp.inv.1; rwa [List.append_nil] at this
        obtain ⟨d0, d1, d2, d3, l', r', b', tp', g1, _⟩ := sub_ex w5 n (.node k u c0 c1 c2 c3) l r b tp hn T5.out.reg T5.out.nd T5.out.at'
        have CN := cell_of_blk g1.1
        have FIN := Lib.hid (show NearSays f x y (.node k u c0 c1 c2 c3) w (.returned (iv (some n.2))) w5 from by
          refine ⟨.inr ⟨n.2, rfl, List.mem_map_of_mem hn, hp.inv.2.1, fun z hm hfz => ?_⟩, B5.out⟩
          obtain ⟨z, hz1, rfl⟩ := List.mem_map.1 hm
          rcases hp.inv.2.2.2.2.2 z (List.mem_append.2 (.inl hz1)) hfz with h1 | h1
          · have h2 := inr_iff.2 (reg_its HT.out.reg z.2 hm)
            rw [outB_of h1] at h2; cases h2
          · exact h1)
        clear g1 hn hp
        go_wp2_with fail
        go_ret
        exact FIN.out

theorem find_top {B q l b r tp : Nat} {t : Tr} {w : World} {x y : Int} (hx : x.natAbs ≤ 65536) (hy : y.natAbs ≤ 65536) (T : Tree w B q l b r tp t) (hN : (nds t).length ≤ 1048576) :
    Calls Tryd.prog 36 #[pt q, .agg #[fl (I x), fl (I y)]] w (NearSays (fun _ => true) x y t w) := by
  have HT := Lib.hid T; have HN := Lib.hid hN; have HX := Lib.hid hx; have HY := Lib.hid hy
  clear T hN hx hy
  go_enter Tryd.func36, Tryd.ntmps36
  go_wp2_with fail
  have X := (Ext.refl w).alloc (.cells #[fl (I x), fl (I y)] 64)
  refine (match_top HX.out HY.out (HT.out.ext X) (f := fun _ => true) (Q := fun _ => True) (.inl ⟨rfl, fun _ => rfl⟩) (.inl rfl) trivial (fun _ _ _ _ => trivial) HN.out).mono ?_
  rintro e w1 ⟨h1 | ⟨p, h1, h2, h3⟩, hx⟩
  · have FIN := Lib.hid (show NearSays (fun _ => true) x y t w (.returned .nilIface) w1 from ⟨.inl ⟨rfl, h1.2⟩, X.trans hx⟩)
    obtain ⟨rfl, _⟩ := h1
    clear hx
    go_wp2_with fail
    go_ret
    exact FIN.out
  · have FIN := Lib.hid (show NearSays (fun _ => true) x y t w (.returned (iv (some p))) w1 from ⟨.inr ⟨p, rfl, h2, h3⟩, X.trans hx⟩)
    subst h1
    clear hx h2 h3
    go_wp2_with fail
    go_ret
    exact FIN.out

end Go.Proofs.YtmmmknmncdlopaaDoor
