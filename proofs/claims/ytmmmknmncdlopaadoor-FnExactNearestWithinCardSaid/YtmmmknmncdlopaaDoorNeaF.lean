/- KNearest; impl.Nearest, impl.NearestWithin. Conditions: small coordinates; the error's variable holds a pointer. -/
import Derived.Test.YtmmmknmncdlopaaDoorNeaD
import Derived.Test.YtmmmknmncdlopaaDoorItemsB
namespace Go.Proofs.YtmmmknmncdlopaaDoor
open Go.ChangeShapes Go.WideShapes Go.ChangeAt Go.RowKit
open Go.Proofs.YtmmmknmncdlopaaDoor.F

set_option maxHeartbeats 1600000 in
theorem knear_top {B q l b r tp : Nat} {t : Tr} {w : World} {x y : Int} {k : Nat} (hx : x.natAbs ≤ 65536) (hy : y.natAbs ≤ 65536) (T : Tree w B q l b r tp t) (hk1 : 1 ≤ k) (hk2 : k ≤ 63) (hN : (nds t).length ≤ 1048576) :
    Calls Tryd.prog 35 #[pt q, .slice none 0 0, .agg #[fl (I x), fl (I y)], .int .i64 (k : Nat), .slice none 0 0] w (NearestSays k x y (2 ^ 50) t w) := by
  have H := Lib.hid (fun W (h : Ext w W) => kn_top hx hy (T.ext h) hk1 hk2 hN)
  clear T hN hx hy
  go_enter Tryd.func35, Tryd.ntmps35
  go_wp2_with fail
  have X := (Ext.refl w).alloc (.cells #[fl (I x), fl (I y)] 64)
  refine (H.out _ X).mono ?_
  rintro e w1 ⟨sv, us, R, rfl, h1, h2, h3, h4, h5, h6, h7⟩
  have FIN := Lib.hid (show NearestSays k x y (2 ^ 50) t w (.returned sv) w1 from ⟨sv, us, R, rfl, own_mono h1 (by simp), h2, h3, h4, h5, h6, X.trans h7⟩)
  clear h1 h2 h3 h4 h5 h6 h7
  go_wp2_with fail
  go_ret
  exact FIN.out
set_option maxHeartbeats 1600000 in
theorem kwithin_top {B q l b r tp : Nat} {t : Tr} {w : World} {x y : Int} {k gm s : Nat} (hx : x.natAbs ≤ 65536) (hy : y.natAbs ≤ 65536) (T : Tree w B q l b r tp t) (hk1 : 1 ≤ k) (hk2 : k ≤ 63) (hN : (nds t).length ≤ 1048576) (hs1 : s ≤ 65536) (hm : w.cell? ⟨gm, 0, none⟩ = some (fl (I s))) :
    Calls Tryd.prog 35 #[pt q, .slice none 0 0, .agg #[fl (I x), fl (I y)], .int .i64 (k : Nat), .slice (some ⟨gm, 0, none⟩) 1 1] w (NearestSays k x y ((s : Int) * (s : Int)) t w) := by
  have H := Lib.hid (fun W (h : Ext w W) => kn_within hx hy (T.ext h) hk1 hk2 hN hs1 (h.cell hm))
  clear T hN hx hy hm
  go_enter Tryd.func35, Tryd.ntmps35
  go_wp2_with fail
  have X := (Ext.refl w).alloc (.cells #[fl (I x), fl (I y)] 64)
  refine (H.out _ X).mono ?_
  rintro e w1 ⟨sv, us, R, rfl, h1, h2, h3, h4, h5, h6, h7⟩
  have FIN := Lib.hid (show NearestSays k x y ((s : Int) * (s : Int)) t w (.returned sv) w1 from ⟨sv, us, R, rfl, own_mono h1 (by simp), h2, h3, h4, h5, h6, X.trans h7⟩)
  clear h1 h2 h3 h4 h5 h6 h7
  go_wp2_with fail
  go_ret
  exact FIN.out

/-- What impl.Nearest hands back: the nearest of a list, ascending. -/
def NearItems (k : Nat) (x y : Int) (M : Int) (ls : List T3) (w : World) (e : Ending) (w' : World) : Prop :=
  ∃ us R, (us ++ R).Perm ls ∧ us.Pairwise (fun p q => dsq x y p ≤ dsq x y q) ∧ (∀ u ∈ us, dsq x y u < M) ∧ us.length ≤ k ∧
    (∀ r ∈ R, M ≤ dsq x y r ∨ (us.length = k ∧ ∀ u ∈ us, dsq x y u ≤ dsq x y r)) ∧ ItemSays us w e w'

set_option maxRecDepth 8000 in
set_option maxHeartbeats 3200000 in
theorem impl_nearest {lo hi p : T3} {ss : List S4} {sg : Nat} {ea : Addr} {k : Nat} (scap : Nat) (w : World) (h : Asked w lo hi ss sg ea) (hb : p.1.natAbs ≤ 65536 ∧ p.2.1.natAbs ≤ 65536) (hk1 : 1 ≤ k) (hk2 : k ≤ 63) :
    Calls Tryd.prog 18 #[.agg #[.int .i64 lo.1, .int .i64 lo.2.1, .int .i64 lo.2.2], .agg #[.int .i64 hi.1, .int .i64 hi.2.1, .int .i64 hi.2.2], .slice (some ⟨sg, 0, none⟩) ss.length scap, .agg #[.int .i64 p.1, .int .i64 p.2.1, .int .i64 p.2.2], .int .i64 (k : Nat)] w
      (NearItems k p.1 p.2.1 (2 ^ 50) (plst lo hi ss ss.length) w) := by
  have H := Lib.hid h; have HB := Lib.hid hb
  clear h hb
  go_enter Tryd.func18, Tryd.ntmps18
  go_wp2_with fail
  have X1 := Lib.hid (show Ext w (((w.alloc (.cells #[.int .i64 lo.1, .int .i64 lo.2.1, .int .i64 lo.2.2] 25)).alloc (.cells #[.int .i64 hi.1, .int .i64 hi.2.1, .int .i64 hi.2.2] 25)).alloc (.cells #[.int .i64 p.1, .int .i64 p.2.1, .int .i64 p.2.2] 25)) from ((((Ext.refl w).alloc _).alloc _).alloc _))
  have BP := Lib.hid (show ((((w.alloc (.cells #[.int .i64 lo.1, .int .i64 lo.2.1, .int .i64 lo.2.2] 25)).alloc (.cells #[.int .i64 hi.1, .int .i64 hi.2.1, .int .i64 hi.2.2] 25)).alloc (.cells #[.int .i64 p.1, .int .i64 p.2.1, .int .i64 p.2.2] 25))).heap[w.heap.size + 2]? = some (.cells #[.int .i64 p.1, .int .i64 p.2.1, .int .i64 p.2.2] 25 (0, 0)) from by
    have := blk_new ((w.alloc (.cells #[.int .i64 lo.1, .int .i64 lo.2.1, .int .i64 lo.2.2] 25)).alloc (.cells #[.int .i64 hi.1, .int .i64 hi.2.1, .int .i64 hi.2.2] 25)) (.cells #[.int .i64 p.1, .int .i64 p.2.1, .int .i64 p.2.2] 25)
    simpa using this)
  generalize (((w.alloc (.cells #[.int .i64 lo.1, .int .i64 lo.2.1, .int .i64 lo.2.2] 25)).alloc (.cells #[.int .i64 hi.1, .int .i64 hi.2.1, .int .i64 hi.2.2] 25)).alloc (.cells #[.int .i64 p.1, .int .i64 p.2.1, .int .i64 p.2.2] 25)) = w1 at *
  refine ((H.out.ext X1.out).grow scap).mono ?_
  rintro e w2 ⟨tq, t, g, cap, rfl, hT, hp, hown, hx⟩
  have HT := Lib.hid hT; have HP := Lib.hid hp; have X2 := Lib.hid (X1.out.trans hx)
  have BP2 := Lib.hid (Ext.blk hx BP.out)
  clear hT hp hown hx BP
  have CP := cell_of_blk BP2.out
  go_wp2_with fail
  refine (point_any _ _ _ w2).mono ?_
  rintro e w3 ⟨rfl, hx3⟩
  have X3 := Lib.hid (X2.out.trans hx3)
  have T3' := Lib.hid (HT.out.ext hx3)
  clear hx3 CP HT X2
  go_wp2_with fail
  refine (knear_top HB.out.1 HB.out.2 T3'.out hk1 hk2 (nds_len HP.out H.out.len)).mono ?_
  rintro e w4 ⟨sv, us, R, rfl, h1, h2, h3, h4, h5, h6, h7⟩
  have HO := Lib.hid h1; have HPM := Lib.hid (h2.trans HP.out); have X4 := Lib.hid (X3.out.trans h7); have H3 := Lib.hid h3; have H4 := Lib.hid h4; have H5 := Lib.hid h5; have H6 := Lib.hid h6
  clear h1 h2 h3 h4 h5 h6 h7
  go_wp2_with fail
  refine (items_any sv us _ w4 HO.out (by have := H5.out; omega)).mono ?_
  rintro e w5 ⟨g5, c5, rfl, hown5, hx5⟩
  have FIN := Lib.hid (show NearItems k p.1 p.2.1 (2 ^ 50) (plst lo hi ss ss.length) w (.returned (.slice (some ⟨g5, 0, none⟩) us.length c5)) w5 from ⟨us, R, HPM.out, H3.out, H4.out, H5.out, H6.out, g5, c5, rfl, own_mono hown5 X4.out.size, X4.out.trans hx5⟩)
  clear hown5 hx5
  go_wp2_with fail
  go_ret
  exact FIN.out

set_option maxRecDepth 8000 in
set_option maxHeartbeats 3200000 in
theorem impl_within {lo hi p : T3} {ss : List S4} {sg : Nat} {ea : Addr} {k s : Nat} (scap : Nat) (w : World) (h : Asked w lo hi ss sg ea) (hb : p.1.natAbs ≤ 65536 ∧ p.2.1.natAbs ≤ 65536) (hk1 : 1 ≤ k) (hk2 : k ≤ 63) (hs : s ≤ 65536) :
    Calls Tryd.prog 21 #[.agg #[.int .i64 lo.1, .int .i64 lo.2.1, .int .i64 lo.2.2], .agg #[.int .i64 hi.1, .int .i64 hi.2.1, .int .i64 hi.2.2], .slice (some ⟨sg, 0, none⟩) ss.length scap, .agg #[.int .i64 p.1, .int .i64 p.2.1, .int .i64 p.2.2], .int .i64 (k : Nat), .int .i64 (s : Nat)] w
      (NearItems k p.1 p.2.1 ((s : Int) * (s : Int)) (plst lo hi ss ss.length) w) := by
  have H := Lib.hid h; have HB := Lib.hid hb
  clear h hb
  go_enter Tryd.func21, Tryd.ntmps21
  go_wp2_with fail
  have X1 := Lib.hid (show Ext w (((w.alloc (.cells #[.int .i64 lo.1, .int .i64 lo.2.1, .int .i64 lo.2.2] 25)).alloc (.cells #[.int .i64 hi.1, .int .i64 hi.2.1, .int .i64 hi.2.2] 25)).alloc (.cells #[.int .i64 p.1, .int .i64 p.2.1, .int .i64 p.2.2] 25)) from ((((Ext.refl w).alloc _).alloc _).alloc _))
  have BP := Lib.hid (show ((((w.alloc (.cells #[.int .i64 lo.1, .int .i64 lo.2.1, .int .i64 lo.2.2] 25)).alloc (.cells #[.int .i64 hi.1, .int .i64 hi.2.1, .int .i64 hi.2.2] 25)).alloc (.cells #[.int .i64 p.1, .int .i64 p.2.1, .int .i64 p.2.2] 25))).heap[w.heap.size + 2]? = some (.cells #[.int .i64 p.1, .int .i64 p.2.1, .int .i64 p.2.2] 25 (0, 0)) from by
    have := blk_new ((w.alloc (.cells #[.int .i64 lo.1, .int .i64 lo.2.1, .int .i64 lo.2.2] 25)).alloc (.cells #[.int .i64 hi.1, .int .i64 hi.2.1, .int .i64 hi.2.2] 25)) (.cells #[.int .i64 p.1, .int .i64 p.2.1, .int .i64 p.2.2] 25)
    simpa using this)
  generalize (((w.alloc (.cells #[.int .i64 lo.1, .int .i64 lo.2.1, .int .i64 lo.2.2] 25)).alloc (.cells #[.int .i64 hi.1, .int .i64 hi.2.1, .int .i64 hi.2.2] 25)).alloc (.cells #[.int .i64 p.1, .int .i64 p.2.1, .int .i64 p.2.2] 25)) = w1 at *
  refine ((H.out.ext X1.out).grow scap).mono ?_
  rintro e w2 ⟨tq, t, g, cap, rfl, hT, hp, hown, hx⟩
  have HT := Lib.hid hT; have HP := Lib.hid hp; have X2 := Lib.hid (X1.out.trans hx)
  have BP2 := Lib.hid (Ext.blk hx BP.out)
  clear hT hp hown hx BP
  have CP := cell_of_blk BP2.out
  go_wp2_with fail
  refine (point_any _ _ _ w2).mono ?_
  rintro e w3 ⟨rfl, hx3⟩
  have X3 := Lib.hid (X2.out.trans hx3)
  have T3' := Lib.hid (HT.out.ext hx3)
  clear hx3 CP HT X2
  have X3s := Lib.hid (((Ext.refl w3).alloc (.cells #[fl (I s)] 62)))
  go_wp2_with fail
  refine (kwithin_top HB.out.1 HB.out.2 (T3'.out.ext X3s.out) hk1 hk2 (nds_len HP.out H.out.len) hs (cell_of_blk (blk_new w3 _) 0)).mono ?_
  rintro e w4 ⟨sv, us, R, rfl, h1, h2, h3, h4, h5, h6, h7⟩
  have HO := Lib.hid h1; have HPM := Lib.hid (h2.trans HP.out); have X4 := Lib.hid (X3.out.trans (X3s.out.trans h7)); have H3 := Lib.hid h3; have H4 := Lib.hid h4; have H5 := Lib.hid h5; have H6 := Lib.hid h6
  clear h1 h2 h3 h4 h5 h6 h7
  go_wp2_with fail
  refine (items_any sv us _ w4 HO.out (by have := H5.out; omega)).mono ?_
  rintro e w5 ⟨g5, c5, rfl, hown5, hx5⟩
  have FIN := Lib.hid (show NearItems k p.1 p.2.1 ((s : Int) * (s : Int)) (plst lo hi ss ss.length) w (.returned (.slice (some ⟨g5, 0, none⟩) us.length c5)) w5 from ⟨us, R, HPM.out, H3.out, H4.out, H5.out, H6.out, g5, c5, rfl, own_mono hown5 X4.out.size, X4.out.trans hx5⟩)
  clear hown5 hx5
  go_wp2_with fail
  go_ret
  exact FIN.out

end Go.Proofs.YtmmmknmncdlopaaDoor
