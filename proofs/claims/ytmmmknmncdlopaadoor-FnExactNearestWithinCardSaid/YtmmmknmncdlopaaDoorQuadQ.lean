/- (*Quadtree).InBoundMatching and InBound. Condition: no more than a million items. -/
import Derived.Test.YtmmmknmncdlopaaDoorQuadO
namespace Go.Proofs.YtmmmknmncdlopaaDoor
open Go.ChangeShapes Go.WideShapes Go.ChangeAt Go.RowKit
open Go.Proofs.YtmmmknmncdlopaaDoor.F

theorem own_mono {w : World} {base base' : Nat} {e : TypeId} {size : Nat} {v : Value} {n : Nat} {xs : List Value} (h : w.ownsRow base e size v n xs) (hb : base' ≤ base) : w.ownsRow base' e size v n xs := by
  refine ⟨h.1, ?_⟩
  rcases h.2 with h0 | ⟨g, cap, cur, h1, h2, h3⟩
  · exact .inl h0
  · exact .inr ⟨g, cap, cur, h1, Nat.le_trans hb h2, h3⟩
/-- What InBound hands back: a slice of the items in the box that the filter takes, in some order. -/
def InSays (f : T3 → Bool) (bx : B4) (t : Tr) (w : World) (e : Ending) (w' : World) : Prop :=
  ∃ sv us, e = .returned sv ∧ w'.ownsRow w.heap.size 77 1 sv us.length (ivs us) ∧ us.Perm ((its t).filter fun x => f x && !outB x bx) ∧ Ext w w'

set_option maxRecDepth 8000 in
set_option maxHeartbeats 6400000 in
theorem inmatch_top {B q l b r tp : Nat} {t : Tr} {w : World} {fv : Value} {f : T3 → Bool} {Q : World → Prop} {bx : B4} (T : Tree w B q l b r tp t) (hF : Fil fv f Q) (hQ : Q w) (hQk : ∀ w1 w2, Q w1 → Below w.heap.size w1 w2 → Q w2) (hb : FinB bx) (hN : (nds t).length ≤ 1048576) :
    Calls Tryd.prog 40 #[pt q, .slice none 0 0, .agg #[fl bx.1, fl bx.2.1, fl bx.2.2.1, fl bx.2.2.2], fv] w (InSays f bx t w) := by
  have HT := Lib.hid T; have HF := Lib.hid hF; have HQ := Lib.hid hQ; have HQK := Lib.hid hQk; have HB := Lib.hid hb; have HN := Lib.hid hN
  clear hF hQ hQk hb hN
  have hq : q < w.heap.size := T.lt
  rcases t with _ | ⟨k, u, c0, c1, c2, c3⟩
  · have CQ := cell_of_blk (show w.heap[q]? = some (.cells #[fl l, fl b, fl r, fl tp, .pointer none] 95 (0, 0)) from T.hq)
    clear T
    go_enter Tryd.func40, Tryd.ntmps40
    go_wp2_with fail
    go_ret
    exact ⟨_, [], rfl, World.ownsRow_nil _ _ _ _, by simp [its, nds], (Ext.refl _).alloc _⟩
  · have CQ := cell_of_blk (show w.heap[q]? = some (.cells #[fl l, fl b, fl r, fl tp, pt k] 95 (0, 0)) from T.hq)
    clear T
    rcases HF.out with ⟨rfl, _⟩ | ⟨F, rfl, _, _⟩ | ⟨F, cc, rfl, _, _⟩
    · go_enter Tryd.func40, Tryd.ntmps40
      go_wp2_with fail
      clear CQ
      have X := Lib.hid (((Ext.refl w).alloc (.cells #[fl bx.1, fl bx.2.1, fl bx.2.2.1, fl bx.2.2.2] 67)).alloc (.cells #[pt w.heap.size, .slice none 0 0, .nilFunc] 108))
      have KB := Lib.hid (blk_old (blk_new w (.cells #[fl bx.1, fl bx.2.1, fl bx.2.2.1, fl bx.2.2.2] 67)) (.cells #[pt w.heap.size, .slice none 0 0, .nilFunc] 108))
      have KA := Lib.hid (blk_new (w.alloc (.cells #[fl bx.1, fl bx.2.1, fl bx.2.2.1, fl bx.2.2.2] 67)) (.cells #[pt w.heap.size, .slice none 0 0, .nilFunc] 108))
      have HSZ : ((w.alloc (.cells #[fl bx.1, fl bx.2.1, fl bx.2.2.1, fl bx.2.2.2] 67)).alloc (.cells #[pt w.heap.size, .slice none 0 0, .nilFunc] 108)).heap.size = w.heap.size + 2 := by simp
      generalize ((w.alloc (.cells #[fl bx.1, fl bx.2.1, fl bx.2.2.1, fl bx.2.2.2] 67)).alloc (.cells #[pt w.heap.size, .slice none 0 0, .nilFunc] 108)) = wb at *
      have KA' : wb.heap[w.heap.size + 1]? = some (.cells #[pt w.heap.size, .slice none 0 0, .nilFunc] 108 (0, 0)) := by have := KA.out; simpa using this
      have TB := Lib.hid (HT.out.ext X.out)
      have HS := Lib.hid (show ∀ w' : World, w'.heap[q]? = wb.heap[q]? → (w'.cell? ⟨q, 0, none⟩ = some (fl l) ∧ w'.cell? ⟨q, 1, none⟩ = some (fl b) ∧ w'.cell? ⟨q, 2, none⟩ = some (fl r) ∧ w'.cell? ⟨q, 3, none⟩ = some (fl tp) ∧ w'.cell? ⟨q, 4, none⟩ = some (pt k)) from fun w' h => by
        have c := cell_of_blk (h.trans TB.out.hq)
        exact ⟨c 0, c 1, c 2, c 3, c 4⟩)
      have hqb : q < wb.heap.size := TB.out.lt
      have HSZ2 := Lib.hid HSZ
      have V := Lib.hid (inb_vis (a := w.heap.size + 1) (v := wb.heap.size) (kb := w.heap.size) (B := w.heap.size) (R := wb.heap.size + 1) (N := 1048576) (b := bx) HF.out HQK.out ⟨by omega, by omega, by omega⟩ ⟨by omega, by omega, by omega, by omega⟩ (Nat.le_refl _))
      have KV := Lib.hid (blk_new wb (.cells #[.iface 106 (pt (w.heap.size + 1))] 122))
      have P0 := Lib.hid (show ∃ sv us, InbP (w.heap.size + 1) wb.heap.size w.heap.size w.heap.size (wb.heap.size + 1) (.nilFunc) f Q bx (wb.drew.alloc (.cells #[.iface 106 (pt (w.heap.size + 1))] 122)) [] sv us from
        ⟨.slice none 0 0, [], KV.out, (blk_old KA' _ : (wb.alloc _).heap[w.heap.size + 1]? = _), (blk_old KB.out _ : (wb.alloc _).heap[w.heap.size]? = _), HQK.out _ _ HQ.out ((X.out.drew).alloc _), by simp, HB.out, World.ownsRow_nil _ _ _ _, .refl _⟩)
      have TV := Lib.hid (TB.out.frame (w' := wb.drew.alloc (.cells #[.iface 106 (pt (w.heap.size + 1))] 122)) fun j hj => heap_alloc_old wb.drew _ hj)
      have HLT := Lib.hid (fun j hj => HT.out.at'.lt j hj)
      clear KA KA' KB HSZ
      go_region_held3 (fun w' => w'.cell? ⟨q, 0, none⟩ = some (fl l) ∧ w'.cell? ⟨q, 1, none⟩ = some (fl b) ∧ w'.cell? ⟨q, 2, none⟩ = some (fl r) ∧ w'.cell? ⟨q, 3, none⟩ = some (fl tp) ∧ w'.cell? ⟨q, 4, none⟩ = some (pt k))
        (first | exact HS.out _ rfl | exact HS.out _ (heap_alloc_old _ _ hqb) | exact HS.out _ HQV)
        (first
          | (go_at_call 48
             refine (newvisit_any _ _ _).mono ?_
             rintro e w4 ⟨rfl, rfl⟩)
          | (go_at_call 49
             refine (visit_any V.out (.node k u c0 c1 c2 c3) l r b tp _ [] (by simp) TV.out.at' HLT.out TV.out.reg TV.out.sm TV.out.bd.1 TV.out.bd.2.1 TV.out.bd.2.2.1 TV.out.bd.2.2.2 P0.out (by simpa using HN.out)).mono ?_
             rintro e w5 ⟨rfl, hP5, hb5⟩
             have HP5 := Lib.hid hP5
             have HB5 := Lib.hid hb5
             have HQV : w5.heap[q]? = wb.heap[q]? := (hb5.block q hq).trans (heap_alloc_old wb.drew _ hqb)
             clear hP5 hb5))
      obtain ⟨sv, us, hp⟩ := HP5.out
      have CA := cell_of_blk hp.ha
      have FIN := Lib.hid (show InSays f bx (.node k u c0 c1 c2 c3) w (.returned sv) w5 from ⟨sv, us, rfl, own_mono hp.own (by have := HSZ2.out; omega), by have h := hp.inv; rw [List.append_nil] at h; exact h, Below.trans (show Below w.heap.size w _ from (X.out.drew).alloc _) HB5.out⟩)
      clear hp HP5
      go_wp2_with fail
      go_ret
      exact FIN.out
    · go_enter Tryd.func40, Tryd.ntmps40
      go_wp2_with fail
      clear CQ
      have X := Lib.hid (((Ext.refl w).alloc (.cells #[fl bx.1, fl bx.2.1, fl bx.2.2.1, fl bx.2.2.2] 67)).alloc (.cells #[pt w.heap.size, .slice none 0 0, .func (.func F) #[] #[]] 108))
      have KB := Lib.hid (blk_old (blk_new w (.cells #[fl bx.1, fl bx.2.1, fl bx.2.2.1, fl bx.2.2.2] 67)) (.cells #[pt w.heap.size, .slice none 0 0, .func (.func F) #[] #[]] 108))
      have KA := Lib.hid (blk_new (w.alloc (.cells #[fl bx.1, fl bx.2.1, fl bx.2.2.1, fl bx.2.2.2] 67)) (.cells #[pt w.heap.size, .slice none 0 0, .func (.func F) #[] #[]] 108))
      have HSZ : ((w.alloc (.cells #[fl bx.1, fl bx.2.1, fl bx.2.2.1, fl bx.2.2.2] 67)).alloc (.cells #[pt w.heap.size, .slice none 0 0, .func (.func F) #[] #[]] 108)).heap.size = w.heap.size + 2 := by simp
      generalize ((w.alloc (.cells #[fl bx.1, fl bx.2.1, fl bx.2.2.1, fl bx.2.2.2] 67)).alloc (.cells #[pt w.heap.size, .slice none 0 0, .func (.func F) #[] #[]] 108)) = wb at *
      have KA' : wb.heap[w.heap.size + 1]? = some (.cells #[pt w.heap.size, .slice none 0 0, .func (.func F) #[] #[]] 108 (0, 0)) := by have := KA.out; simpa using this
      have TB := Lib.hid (HT.out.ext X.out)
      have HS := Lib.hid (show ∀ w' : World, w'.heap[q]? = wb.heap[q]? → (w'.cell? ⟨q, 0, none⟩ = some (fl l) ∧ w'.cell? ⟨q, 1, none⟩ = some (fl b) ∧ w'.cell? ⟨q, 2, none⟩ = some (fl r) ∧ w'.cell? ⟨q, 3, none⟩ = some (fl tp) ∧ w'.cell? ⟨q, 4, none⟩ = some (pt k)) from fun w' h => by
        have c := cell_of_blk (h.trans TB.out.hq)
        exact ⟨c 0, c 1, c 2, c 3, c 4⟩)
      have hqb : q < wb.heap.size := TB.out.lt
      have HSZ2 := Lib.hid HSZ
      have V := Lib.hid (inb_vis (a := w.heap.size + 1) (v := wb.heap.size) (kb := w.heap.size) (B := w.heap.size) (R := wb.heap.size + 1) (N := 1048576) (b := bx) HF.out HQK.out ⟨by omega, by omega, by omega⟩ ⟨by omega, by omega, by omega, by omega⟩ (Nat.le_refl _))
      have KV := Lib.hid (blk_new wb (.cells #[.iface 106 (pt (w.heap.size + 1))] 122))
      have P0 := Lib.hid (show ∃ sv us, InbP (w.heap.size + 1) wb.heap.size w.heap.size w.heap.size (wb.heap.size + 1) (.func (.func F) #[] #[]) f Q bx (wb.drew.alloc (.cells #[.iface 106 (pt (w.heap.size + 1))] 122)) [] sv us from
        ⟨.slice none 0 0, [], KV.out, (blk_old KA' _ : (wb.alloc _).heap[w.heap.size + 1]? = _), (blk_old KB.out _ : (wb.alloc _).heap[w.heap.size]? = _), HQK.out _ _ HQ.out ((X.out.drew).alloc _), by simp, HB.out, World.ownsRow_nil _ _ _ _, .refl _⟩)
      have TV := Lib.hid (TB.out.frame (w' := wb.drew.alloc (.cells #[.iface 106 (pt (w.heap.size + 1))] 122)) fun j hj => heap_alloc_old wb.drew _ hj)
      have HLT := Lib.hid (fun j hj => HT.out.at'.lt j hj)
      clear KA KA' KB HSZ
      go_region_held3 (fun w' => w'.cell? ⟨q, 0, none⟩ = some (fl l) ∧ w'.cell? ⟨q, 1, none⟩ = some (fl b) ∧ w'.cell? ⟨q, 2, none⟩ = some (fl r) ∧ w'.cell? ⟨q, 3, none⟩ = some (fl tp) ∧ w'.cell? ⟨q, 4, none⟩ = some (pt k))
        (first | exact HS.out _ rfl | exact HS.out _ (heap_alloc_old _ _ hqb) | exact HS.out _ HQV)
        (first
          | (go_at_call 48
             refine (newvisit_any _ _ _).mono ?_
             rintro e w4 ⟨rfl, rfl⟩)
          | (go_at_call 49
             refine (visit_any V.out (.node k u c0 c1 c2 c3) l r b tp _ [] (by simp) TV.out.at' HLT.out TV.out.reg TV.out.sm TV.out.bd.1 TV.out.bd.2.1 TV.out.bd.2.2.1 TV.out.bd.2.2.2 P0.out (by simpa using HN.out)).mono ?_
             rintro e w5 ⟨rfl, hP5, hb5⟩
             have HP5 := Lib.hid hP5
             have HB5 := Lib.hid hb5
             have HQV : w5.heap[q]? = wb.heap[q]? := (hb5.block q hq).trans (heap_alloc_old wb.drew _ hqb)
             clear hP5 hb5))
      obtain ⟨sv, us, hp⟩ := HP5.out
      have CA := cell_of_blk hp.ha
      have FIN := Lib.hid (show InSays f bx (.node k u c0 c1 c2 c3) w (.returned sv) w5 from ⟨sv, us, rfl, own_mono hp.own (by have := HSZ2.out; omega), by have h := hp.inv; rw [List.append_nil] at h; exact h, Below.trans (show Below w.heap.size w _ from (X.out.drew).alloc _) HB5.out⟩)
      clear hp HP5
      go_wp2_with fail
      go_ret
      exact FIN.out
    · go_enter Tryd.func40, Tryd.ntmps40
      go_wp2_with fail
      clear CQ
      have X := Lib.hid (((Ext.refl w).alloc (.cells #[fl bx.1, fl bx.2.1, fl bx.2.2.1, fl bx.2.2.2] 67)).alloc (.cells #[pt w.heap.size, .slice none 0 0, .func (.func F) #[] #[cc]] 108))
      have KB := Lib.hid (blk_old (blk_new w (.cells #[fl bx.1, fl bx.2.1, fl bx.2.2.1, fl bx.2.2.2] 67)) (.cells #[pt w.heap.size, .slice none 0 0, .func (.func F) #[] #[cc]] 108))
      have KA := Lib.hid (blk_new (w.alloc (.cells #[fl bx.1, fl bx.2.1, fl bx.2.2.1, fl bx.2.2.2] 67)) (.cells #[pt w.heap.size, .slice none 0 0, .func (.func F) #[] #[cc]] 108))
      have HSZ : ((w.alloc (.cells #[fl bx.1, fl bx.2.1, fl bx.2.2.1, fl bx.2.2.2] 67)).alloc (.cells #[pt w.heap.size, .slice none 0 0, .func (.func F) #[] #[cc]] 108)).heap.size = w.heap.size + 2 := by simp
      generalize ((w.alloc (.cells #[fl bx.1, fl bx.2.1, fl bx.2.2.1, fl bx.2.2.2] 67)).alloc (.cells #[pt w.heap.size, .slice none 0 0, .func (.func F) #[] #[cc]] 108)) = wb at *
      have KA' : wb.heap[w.heap.size + 1]? = some (.cells #[pt w.heap.size, .slice none 0 0, .func (.func F) #[] #[cc]] 108 (0, 0)) := by have := KA.out; simpa using this
      have TB := Lib.hid (HT.out.ext X.out)
      have HS := Lib.hid (show ∀ w' : World, w'.heap[q]? = wb.heap[q]? → (w'.cell? ⟨q, 0, none⟩ = some (fl l) ∧ w'.cell? ⟨q, 1, none⟩ = some (fl b) ∧ w'.cell? ⟨q, 2, none⟩ = some (fl r) ∧ w'.cell? ⟨q, 3, none⟩ = some (fl tp) ∧ w'.cell? ⟨q, 4, none⟩ = some (pt k)) from fun w' h => by
        have c := cell_of_blk (h.trans TB.out.hq)
        exact ⟨c 0, c 1, c 2, c 3, c 4⟩)
      have hqb : q < wb.heap.size := TB.out.lt
      have HSZ2 := Lib.hid HSZ
      have V := Lib.hid (inb_vis (a := w.heap.size + 1) (v := wb.heap.size) (kb := w.heap.size) (B := w.heap.size) (R := wb.heap.size + 1) (N := 1048576) (b := bx) HF.out HQK.out ⟨by omega, by omega, by omega⟩ ⟨by omega, by omega, by omega, by omega⟩ (Nat.le_refl _))
      have KV := Lib.hid (blk_new wb (.cells #[.iface 106 (pt (w.heap.size + 1))] 122))
      have P0 := Lib.hid (show ∃ sv us, InbP (w.heap.size + 1) wb.heap.size w.heap.size w.heap.size (wb.heap.size + 1) (.func (.func F) #[] #[cc]) f Q bx (wb.drew.alloc (.cells #[.iface 106 (pt (w.heap.size + 1))] 122)) [] sv us from
        ⟨.slice none 0 0, [], KV.out, (blk_old KA' _ : (wb.alloc _).heap[w.heap.size + 1]? = _), (blk_old KB.out _ : (wb.alloc _).heap[w.heap.size]? = _), HQK.out _ _ HQ.out ((X.out.drew).alloc _), by simp, HB.out, World.ownsRow_nil _ _ _ _, .refl _⟩)
      have TV := Lib.hid (TB.out.frame (w' := wb.drew.alloc (.cells #[.iface 106 (pt (w.heap.size + 1))] 122)) fun j hj => heap_alloc_old wb.drew _ hj)
      have HLT := Lib.hid (fun j hj => HT.out.at'.lt j hj)
      clear KA KA' KB HSZ
      go_region_held3 (fun w' => w'.cell? ⟨q, 0, none⟩ = some (fl l) ∧ w'.cell? ⟨q, 1, none⟩ = some (fl b) ∧ w'.cell? ⟨q, 2, none⟩ = some (fl r) ∧ w'.cell? ⟨q, 3, none⟩ = some (fl tp) ∧ w'.cell? ⟨q, 4, none⟩ = some (pt k))
        (first | exact HS.out _ rfl | exact HS.out _ (heap_alloc_old _ _ hqb) | exact HS.out _ HQV)
        (first
          | (go_at_call 48
             refine (newvisit_any _ _ _).mono ?_
             rintro e w4 ⟨rfl, rfl⟩)
          | (go_at_call 49
             refine (visit_any V.out (.node k u c0 c1 c2 c3) l r b tp _ [] (by simp) TV.out.at' HLT.out TV.out.reg TV.out.sm TV.out.bd.1 TV.out.bd.2.1 TV.out.bd.2.2.1 TV.out.bd.2.2.2 P0.out (by simpa using HN.out)).mono ?_
             rintro e w5 ⟨rfl, hP5, hb5⟩
             have HP5 := Lib.hid hP5
             have HB5 := Lib.hid hb5
             have HQV : w5.heap[q]? = wb.heap[q]? := (hb5.block q hq).trans (heap_alloc_old wb.drew _ hqb)
             clear hP5 hb5))
      obtain ⟨sv, us, hp⟩ := HP5.out
      have CA := cell_of_blk hp.ha
      have FIN := Lib.hid (show InSays f bx (.node k u c0 c1 c2 c3) w (.returned sv) w5 from ⟨sv, us, rfl, own_mono hp.own (by have := HSZ2.out; omega), by have h := hp.inv; rw [List.append_nil] at h; exact h, Below.trans (show Below w.heap.size w _ from (X.out.drew).alloc _) HB5.out⟩)
      clear hp HP5
      go_wp2_with fail
      go_ret
      exact FIN.out

theorem fil_all (Q : World → Prop) : Fil .nilFunc (fun _ => true) Q := .inl ⟨rfl, fun _ => rfl⟩
theorem inbound_top {B q l b r tp : Nat} {t : Tr} {w : World} {bx : B4} (T : Tree w B q l b r tp t) (hb : FinB bx) (hN : (nds t).length ≤ 1048576) :
    Calls Tryd.prog 30 #[pt q, .slice none 0 0, .agg #[fl bx.1, fl bx.2.1, fl bx.2.2.1, fl bx.2.2.2]] w (InSays (fun _ => true) bx t w) := by
  have HT := Lib.hid T; have HB := Lib.hid hb; have HN := Lib.hid hN
  clear T hb hN
  go_enter Tryd.func30, Tryd.ntmps30
  go_wp2_with fail
  have X := (Ext.refl w).alloc (.cells #[fl bx.1, fl bx.2.1, fl bx.2.2.1, fl bx.2.2.2] 67)
  refine (inmatch_top (HT.out.ext X) (fil_all fun _ => True) trivial (fun _ _ _ _ => trivial) HB.out HN.out).mono ?_
  rintro e w1 ⟨sv, us, rfl, h1, h2, h3⟩
  have FIN := Lib.hid (show InSays (fun _ => true) bx t w (.returned sv) w1 from ⟨sv, us, rfl, own_mono h1 (by simp), h2, X.trans h3⟩)
  clear h1 h2 h3
  go_wp2_with fail
  go_ret
  exact FIN.out

end Go.Proofs.YtmmmknmncdlopaaDoor
