/- impl.Find, FindEven. Conditions: small coordinates; the error's variable holds a pointer. -/
import Derived.Test.YtmmmknmncdlopaaDoorItemsB
import Derived.Test.YtmmmknmncdlopaaDoorQuadR
namespace Go.Proofs.YtmmmknmncdlopaaDoor
open Go.ChangeShapes Go.WideShapes Go.ChangeAt Go.RowKit
open Go.Proofs.YtmmmknmncdlopaaDoor.F

/-- The item that is found, if there is one. -/
def FindSays (f : T3 → Bool) (p : T3) (ls : List T3) (w : World) (e : Ending) (w' : World) : Prop :=
  ((e = .returned (.tuple #[itc (0, 0, 0), .bool false]) ∧ ∀ x ∈ ls, f x = false) ∨ (∃ x, e = .returned (.tuple #[itc x, .bool true]) ∧ x ∈ ls ∧ f x = true ∧ ∀ r ∈ ls, f r = true → dsq p.1 p.2.1 x ≤ dsq p.1 p.2.1 r)) ∧ Ext w w'
theorem find_says {f : T3 → Bool} {p : T3} {ls : List T3} {t : Tr} {w w1 w2 w3 : World} {e : Ending} (hp : (its t).Perm ls) (h : NearSays f p.1 p.2.1 t w1 e w2) (hx : Ext w w1) (hy : Below w.heap.size w2 w3) :
    (e = .returned .nilIface ∧ FindSays f p ls w (.returned (.tuple #[itc (0, 0, 0), .bool false])) w3) ∨ ∃ x : T3, e = .returned (.iface 25 (.agg #[.int .i64 x.1, .int .i64 x.2.1, .int .i64 x.2.2])) ∧ FindSays f p ls w (.returned (.tuple #[itc x, .bool true])) w3 := by
  obtain ⟨⟨rfl, h1⟩ | ⟨x, rfl, h1, h2, h3⟩, h4⟩ := h
  · exact .inl ⟨rfl, .inl ⟨rfl, fun x hm => h1 x (hp.mem_iff.2 hm)⟩, Below.trans (hx.trans h4) hy⟩
  · exact .inr ⟨x, rfl, .inr ⟨x, rfl, hp.mem_iff.1 h1, h2, fun r hr => h3 r (hp.mem_iff.2 hr)⟩, Below.trans (hx.trans h4) hy⟩

set_option maxRecDepth 8000 in
set_option maxHeartbeats 3200000 in
theorem impl_find {lo hi p : T3} {ss : List S4} {sg : Nat} {ea : Addr} (scap : Nat) (w : World) (h : Asked w lo hi ss sg ea) (hb : p.1.natAbs ≤ 65536 ∧ p.2.1.natAbs ≤ 65536) :
    Calls Tryd.prog 22 #[.agg #[.int .i64 lo.1, .int .i64 lo.2.1, .int .i64 lo.2.2], .agg #[.int .i64 hi.1, .int .i64 hi.2.1, .int .i64 hi.2.2], .slice (some ⟨sg, 0, none⟩) ss.length scap, .agg #[.int .i64 p.1, .int .i64 p.2.1, .int .i64 p.2.2]] w
      (FindSays (fun _ : T3 => true) p (plst lo hi ss ss.length) w) := by
  have H := Lib.hid h; have HB := Lib.hid hb
  clear h hb
  go_enter Tryd.func22, Tryd.ntmps22
  go_wp2_with fail
  have X1 := Lib.hid (show Ext w ((((w.alloc (.cells #[.int .i64 lo.1, .int .i64 lo.2.1, .int .i64 lo.2.2] 25)).alloc (.cells #[.int .i64 hi.1, .int .i64 hi.2.1, .int .i64 hi.2.2] 25)).alloc (.cells #[.int .i64 p.1, .int .i64 p.2.1, .int .i64 p.2.2] 25)).alloc (.cells #[.int .i64 0, .int .i64 0, .int .i64 0] 25)) from (((((Ext.refl w).alloc _).alloc _).alloc _).alloc _))
  have BP := Lib.hid (show (((((w.alloc (.cells #[.int .i64 lo.1, .int .i64 lo.2.1, .int .i64 lo.2.2] 25)).alloc (.cells #[.int .i64 hi.1, .int .i64 hi.2.1, .int .i64 hi.2.2] 25)).alloc (.cells #[.int .i64 p.1, .int .i64 p.2.1, .int .i64 p.2.2] 25)).alloc (.cells #[.int .i64 0, .int .i64 0, .int .i64 0] 25))).heap[w.heap.size + 2]? = some (.cells #[.int .i64 p.1, .int .i64 p.2.1, .int .i64 p.2.2] 25 (0, 0)) from by
    refine blk_old ?_ _
    have := blk_new ((w.alloc (.cells #[.int .i64 lo.1, .int .i64 lo.2.1, .int .i64 lo.2.2] 25)).alloc (.cells #[.int .i64 hi.1, .int .i64 hi.2.1, .int .i64 hi.2.2] 25)) (.cells #[.int .i64 p.1, .int .i64 p.2.1, .int .i64 p.2.2] 25)
    simpa using this)
  have BQ := Lib.hid (show (((((w.alloc (.cells #[.int .i64 lo.1, .int .i64 lo.2.1, .int .i64 lo.2.2] 25)).alloc (.cells #[.int .i64 hi.1, .int .i64 hi.2.1, .int .i64 hi.2.2] 25)).alloc (.cells #[.int .i64 p.1, .int .i64 p.2.1, .int .i64 p.2.2] 25)).alloc (.cells #[.int .i64 0, .int .i64 0, .int .i64 0] 25))).heap[w.heap.size + 3]? = some (.cells #[.int .i64 0, .int .i64 0, .int .i64 0] 25 (0, 0)) from by
    have := blk_new (((w.alloc (.cells #[.int .i64 lo.1, .int .i64 lo.2.1, .int .i64 lo.2.2] 25)).alloc (.cells #[.int .i64 hi.1, .int .i64 hi.2.1, .int .i64 hi.2.2] 25)).alloc (.cells #[.int .i64 p.1, .int .i64 p.2.1, .int .i64 p.2.2] 25)) (.cells #[.int .i64 0, .int .i64 0, .int .i64 0] 25)
    simpa using this)
  generalize ((((w.alloc (.cells #[.int .i64 lo.1, .int .i64 lo.2.1, .int .i64 lo.2.2] 25)).alloc (.cells #[.int .i64 hi.1, .int .i64 hi.2.1, .int .i64 hi.2.2] 25)).alloc (.cells #[.int .i64 p.1, .int .i64 p.2.1, .int .i64 p.2.2] 25)).alloc (.cells #[.int .i64 0, .int .i64 0, .int .i64 0] 25)) = w1 at *
  refine ((H.out.ext X1.out).grow scap).mono ?_
  rintro e w2 ⟨tq, t, g, cap, rfl, hT, hp, _, hx⟩
  have HT := Lib.hid hT; have HP := Lib.hid hp; have X2 := Lib.hid (X1.out.trans hx)
  have BP2 := Lib.hid (Ext.blk hx BP.out); have BQ2 := Lib.hid (Ext.blk hx BQ.out)
  clear hT hp hx BP BQ
  have CP := cell_of_blk BP2.out
  go_wp2_with fail
  refine (point_any _ _ _ w2).mono ?_
  rintro e w3 ⟨rfl, hx3⟩
  have X3 := Lib.hid (X2.out.trans hx3)
  have T3' := Lib.hid (HT.out.ext hx3)
  have BQ3 := Lib.hid (Ext.blk hx3 BQ2.out)
  clear hx3 BP2 BQ2 HT X2 CP
  go_wp2_with fail
  refine (find_top (x := p.1) (y := p.2.1) HB.out.1 HB.out.2 T3'.out (nds_len HP.out H.out.len)).mono ?_
  rintro e w4 hn
  have BQ4 := Ext.blk hn.2 BQ3.out
  have CQ := cell_of_blk BQ4
  have FQ := free_of_blk BQ4
  have h2 : w.heap.size ≤ w4.heap.size := (X3.out.trans hn.2).size
  have SET := Lib.hid (show ∀ a b c, Below w.heap.size w4 (((w4.setCell ⟨w.heap.size + 3, 0, none⟩ a).setCell ⟨w.heap.size + 3, 1, none⟩ b).setCell ⟨w.heap.size + 3, 2, none⟩ c) from fun a b c => Below.setCell (Below.setCell (Below.setCell (Below.refl _ _) (by show _ ≤ w.heap.size + 3; omega) _) (by show _ ≤ w.heap.size + 3; omega) _) (by show _ ≤ w.heap.size + 3; omega) _)
  rcases find_says HP.out hn X3.out (Below.refl _ _) with ⟨rfl, _⟩ | ⟨x, rfl, _⟩
  · have FIN := Lib.hid ((find_says (w3 := ((w4.setCell ⟨w.heap.size + 3, 0, none⟩ (.int .i64 0)).setCell ⟨w.heap.size + 3, 1, none⟩ (.int .i64 0)).setCell ⟨w.heap.size + 3, 2, none⟩ (.int .i64 0)) HP.out hn X3.out (SET.out _ _ _)).resolve_right (by rintro ⟨x, h, _⟩; cases h)).2
    clear hn
    go_wp2_with fail
    have C5 := cell_of_blk (set3 (.int .i64 0) (.int .i64 0) (.int .i64 0) BQ4).1
    clear SET CQ FQ BQ4
    generalize World.setCell _ _ (.int .i64 0) = w5 at C5 FIN ⊢
    exact bodyPost_ret (v := .tuple #[itc (0, 0, 0), .bool false]) (by simp [results, Tryd.results22, go_sem, C5]) rfl FIN.out
  · have FIN := Lib.hid (show FindSays (fun _ : T3 => true) p (plst lo hi ss ss.length) w (.returned (.tuple #[itc x, .bool true])) (((w4.setCell ⟨w.heap.size + 3, 0, none⟩ (.int .i64 x.1)).setCell ⟨w.heap.size + 3, 1, none⟩ (.int .i64 x.2.1)).setCell ⟨w.heap.size + 3, 2, none⟩ (.int .i64 x.2.2)) from by
      rcases find_says (w3 := ((w4.setCell ⟨w.heap.size + 3, 0, none⟩ (.int .i64 x.1)).setCell ⟨w.heap.size + 3, 1, none⟩ (.int .i64 x.2.1)).setCell ⟨w.heap.size + 3, 2, none⟩ (.int .i64 x.2.2)) HP.out hn X3.out (SET.out _ _ _) with ⟨h, _⟩ | ⟨y, h, h1⟩
      · cases h
      · have e : x = y := by
          injection h with h; injection h with _ h; injection h with h
          simp at h
          exact Prod.ext h.1 (Prod.ext h.2.1 h.2.2)
        rw [e]; rw [e] at h1; exact h1)
    have ai := as_item (.agg #[.int .i64 x.1, .int .i64 x.2.1, .int .i64 x.2.2])
    clear hn
    go_wp2_with fail
    have C5 := cell_of_blk (set3 (.int .i64 x.1) (.int .i64 x.2.1) (.int .i64 x.2.2) BQ4).1
    clear SET CQ FQ BQ4
    generalize World.setCell _ _ (.int .i64 x.2.2) = w5 at C5 FIN ⊢
    exact bodyPost_ret (v := .tuple #[itc x, .bool true]) (by simp [results, Tryd.results22, go_sem, C5]) rfl FIN.out

set_option maxRecDepth 8000 in
set_option maxHeartbeats 3200000 in
theorem impl_findeven {lo hi p : T3} {ss : List S4} {sg : Nat} {ea : Addr} (scap : Nat) (w : World) (h : Asked w lo hi ss sg ea) (hb : p.1.natAbs ≤ 65536 ∧ p.2.1.natAbs ≤ 65536) :
    Calls Tryd.prog 24 #[.agg #[.int .i64 lo.1, .int .i64 lo.2.1, .int .i64 lo.2.2], .agg #[.int .i64 hi.1, .int .i64 hi.2.1, .int .i64 hi.2.2], .slice (some ⟨sg, 0, none⟩) ss.length scap, .agg #[.int .i64 p.1, .int .i64 p.2.1, .int .i64 p.2.2]] w
      (FindSays (evn) p (plst lo hi ss ss.length) w) := by
  have H := Lib.hid h; have HB := Lib.hid hb
  clear h hb
  go_enter Tryd.func24, Tryd.ntmps24
  go_wp2_with fail
  have X1 := Lib.hid (show Ext w ((((w.alloc (.cells #[.int .i64 lo.1, .int .i64 lo.2.1, .int .i64 lo.2.2] 25)).alloc (.cells #[.int .i64 hi.1, .int .i64 hi.2.1, .int .i64 hi.2.2] 25)).alloc (.cells #[.int .i64 p.1, .int .i64 p.2.1, .int .i64 p.2.2] 25)).alloc (.cells #[.int .i64 0, .int .i64 0, .int .i64 0] 25)) from (((((Ext.refl w).alloc _).alloc _).alloc _).alloc _))
  have BP := Lib.hid (show (((((w.alloc (.cells #[.int .i64 lo.1, .int .i64 lo.2.1, .int .i64 lo.2.2] 25)).alloc (.cells #[.int .i64 hi.1, .int .i64 hi.2.1, .int .i64 hi.2.2] 25)).alloc (.cells #[.int .i64 p.1, .int .i64 p.2.1, .int .i64 p.2.2] 25)).alloc (.cells #[.int .i64 0, .int .i64 0, .int .i64 0] 25))).heap[w.heap.size + 2]? = some (.cells #[.int .i64 p.1, .int .i64 p.2.1, .int .i64 p.2.2] 25 (0, 0)) from by
    refine blk_old ?_ _
    have := blk_new ((w.alloc (.cells #[.int .i64 lo.1, .int .i64 lo.2.1, .int .i64 lo.2.2] 25)).alloc (.cells #[.int .i64 hi.1, .int .i64 hi.2.1, .int .i64 hi.2.2] 25)) (.cells #[.int .i64 p.1, .int .i64 p.2.1, .int .i64 p.2.2] 25)
    simpa using this)
  have BQ := Lib.hid (show (((((w.alloc (.cells #[.int .i64 lo.1, .int .i64 lo.2.1, .int .i64 lo.2.2] 25)).alloc (.cells #[.int .i64 hi.1, .int .i64 hi.2.1, .int .i64 hi.2.2] 25)).alloc (.cells #[.int .i64 p.1, .int .i64 p.2.1, .int .i64 p.2.2] 25)).alloc (.cells #[.int .i64 0, .int .i64 0, .int .i64 0] 25))).heap[w.heap.size + 3]? = some (.cells #[.int .i64 0, .int .i64 0, .int .i64 0] 25 (0, 0)) from by
    have := blk_new (((w.alloc (.cells #[.int .i64 lo.1, .int .i64 lo.2.1, .int .i64 lo.2.2] 25)).alloc (.cells #[.int .i64 hi.1, .int .i64 hi.2.1, .int .i64 hi.2.2] 25)).alloc (.cells #[.int .i64 p.1, .int .i64 p.2.1, .int .i64 p.2.2] 25)) (.cells #[.int .i64 0, .int .i64 0, .int .i64 0] 25)
    simpa using this)
  generalize ((((w.alloc (.cells #[.int .i64 lo.1, .int .i64 lo.2.1, .int .i64 lo.2.2] 25)).alloc (.cells #[.int .i64 hi.1, .int .i64 hi.2.1, .int .i64 hi.2.2] 25)).alloc (.cells #[.int .i64 p.1, .int .i64 p.2.1, .int .i64 p.2.2] 25)).alloc (.cells #[.int .i64 0, .int .i64 0, .int .i64 0] 25)) = w1 at *
  refine ((H.out.ext X1.out).grow scap).mono ?_
  rintro e w2 ⟨tq, t, g, cap, rfl, hT, hp, _, hx⟩
  have HT := Lib.hid hT; have HP := Lib.hid hp; have X2 := Lib.hid (X1.out.trans hx)
  have BP2 := Lib.hid (Ext.blk hx BP.out); have BQ2 := Lib.hid (Ext.blk hx BQ.out)
  clear hT hp hx BP BQ
  have CP := cell_of_blk BP2.out
  go_wp2_with fail
  refine (point_any _ _ _ w2).mono ?_
  rintro e w3 ⟨rfl, hx3⟩
  have X3 := Lib.hid (X2.out.trans hx3)
  have T3' := Lib.hid (HT.out.ext hx3)
  have BQ3 := Lib.hid (Ext.blk hx3 BQ2.out)
  clear hx3 BP2 BQ2 HT X2 CP
  go_wp2_with fail
  refine (match_top (x := p.1) (y := p.2.1) (f := evn) (Q := fun _ => True) HB.out.1 HB.out.2 T3'.out fil_even (.inr ⟨_, rfl⟩) trivial (fun _ _ _ _ => trivial) (nds_len HP.out H.out.len)).mono ?_
  rintro e w4 hn
  have BQ4 := Ext.blk hn.2 BQ3.out
  have CQ := cell_of_blk BQ4
  have FQ := free_of_blk BQ4
  have h2 : w.heap.size ≤ w4.heap.size := (X3.out.trans hn.2).size
  have SET := Lib.hid (show ∀ a b c, Below w.heap.size w4 (((w4.setCell ⟨w.heap.size + 3, 0, none⟩ a).setCell ⟨w.heap.size + 3, 1, none⟩ b).setCell ⟨w.heap.size + 3, 2, none⟩ c) from fun a b c => Below.setCell (Below.setCell (Below.setCell (Below.refl _ _) (by show _ ≤ w.heap.size + 3; omega) _) (by show _ ≤ w.heap.size + 3; omega) _) (by show _ ≤ w.heap.size + 3; omega) _)
  rcases find_says HP.out hn X3.out (Below.refl _ _) with ⟨rfl, _⟩ | ⟨x, rfl, _⟩
  · have FIN := Lib.hid ((find_says (w3 := ((w4.setCell ⟨w.heap.size + 3, 0, none⟩ (.int .i64 0)).setCell ⟨w.heap.size + 3, 1, none⟩ (.int .i64 0)).setCell ⟨w.heap.size + 3, 2, none⟩ (.int .i64 0)) HP.out hn X3.out (SET.out _ _ _)).resolve_right (by rintro ⟨x, h, _⟩; cases h)).2
    clear hn
    go_wp2_with fail
    have C5 := cell_of_blk (set3 (.int .i64 0) (.int .i64 0) (.int .i64 0) BQ4).1
    clear SET CQ FQ BQ4
    generalize World.setCell _ _ (.int .i64 0) = w5 at C5 FIN ⊢
    exact bodyPost_ret (v := .tuple #[itc (0, 0, 0), .bool false]) (by simp [results, Tryd.results24, go_sem, C5]) rfl FIN.out
  · have FIN := Lib.hid (show FindSays (evn) p (plst lo hi ss ss.length) w (.returned (.tuple #[itc x, .bool true])) (((w4.setCell ⟨w.heap.size + 3, 0, none⟩ (.int .i64 x.1)).setCell ⟨w.heap.size + 3, 1, none⟩ (.int .i64 x.2.1)).setCell ⟨w.heap.size + 3, 2, none⟩ (.int .i64 x.2.2)) from by
      rcases find_says (w3 := ((w4.setCell ⟨w.heap.size + 3, 0, none⟩ (.int .i64 x.1)).setCell ⟨w.heap.size + 3, 1, none⟩ (.int .i64 x.2.1)).setCell ⟨w.heap.size + 3, 2, none⟩ (.int .i64 x.2.2)) HP.out hn X3.out (SET.out _ _ _) with ⟨h, _⟩ | ⟨y, h, h1⟩
      · cases h
      · have e : x = y := by
          injection h with h; injection h with _ h; injection h with h
          simp at h
          exact Prod.ext h.1 (Prod.ext h.2.1 h.2.2)
        rw [e]; rw [e] at h1; exact h1)
    have ai := as_item (.agg #[.int .i64 x.1, .int .i64 x.2.1, .int .i64 x.2.2])
    clear hn
    go_wp2_with fail
    have C5 := cell_of_blk (set3 (.int .i64 x.1) (.int .i64 x.2.1) (.int .i64 x.2.2) BQ4).1
    clear SET CQ FQ BQ4
    generalize World.setCell _ _ (.int .i64 x.2.2) = w5 at C5 FIN ⊢
    exact bodyPost_ret (v := .tuple #[itc x, .bool true]) (by simp [results, Tryd.results24, go_sem, C5]) rfl FIN.out

end Go.Proofs.YtmmmknmncdlopaaDoor
