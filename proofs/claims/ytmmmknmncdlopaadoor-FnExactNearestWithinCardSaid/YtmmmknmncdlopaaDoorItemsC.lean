/- impl.Grown. Conditions: small coordinates; the error's variable holds a pointer. -/
import Derived.Test.YtmmmknmncdlopaaDoorItemsB
namespace Go.Proofs.YtmmmknmncdlopaaDoor
open Go.ChangeShapes Go.WideShapes Go.ChangeAt Go.RowKit
open Go.Proofs.YtmmmknmncdlopaaDoor.F

theorem bound_top {B q l b r tp : Nat} {t : Tr} {w : World} (T : Tree w B q l b r tp t) :
    Calls Tryd.prog 39 #[pt q] w fun e w' => e = .returned (.agg #[fl l, fl b, fl r, fl tp]) ∧ Ext w w' := by
  have C := cell_of_blk (blk_old T.hq (.cells #[fl 0, fl 0, fl 0, fl 0] 67))
  have st := st_fl
  have hw := T.lt
  clear T
  go_enter Tryd.func39, Tryd.ntmps39
  go_wp2_with fail
  exact bodyPost_ret (v := .agg #[fl l, fl b, fl r, fl tp]) (by simp [results, Tryd.results39, go_sem]) rfl ⟨rfl, (Ext.refl _).alloc _⟩

/-- Which steps were done, and the items behind them. -/
def GrownSays (lo hi : T3) (ss : List S4) (w : World) (e : Ending) (w' : World) : Prop :=
  ∃ g cap g2 cap2 us, e = .returned (.tuple #[.slice (some ⟨g, 0, none⟩) ss.length cap, .slice (some ⟨g2, 0, none⟩) us.length cap2]) ∧
    w'.ownsRow w.heap.size 4 1 (.slice (some ⟨g, 0, none⟩) ss.length cap) ss.length (bls (pdon lo hi ss ss.length)) ∧ OwnI w' w.heap.size g2 cap2 us ∧ us.Perm (plst lo hi ss ss.length) ∧ Ext w w'

set_option maxRecDepth 8000 in
set_option maxHeartbeats 3200000 in
theorem impl_grown {lo hi : T3} {ss : List S4} {sg : Nat} {ea : Addr} (scap : Nat) (w : World) (h : Asked w lo hi ss sg ea) :
    Calls Tryd.prog 25 #[.agg #[.int .i64 lo.1, .int .i64 lo.2.1, .int .i64 lo.2.2], .agg #[.int .i64 hi.1, .int .i64 hi.2.1, .int .i64 hi.2.2], .slice (some ⟨sg, 0, none⟩) ss.length scap] w (GrownSays lo hi ss w) := by
  have H := Lib.hid h
  clear h
  go_enter Tryd.func25, Tryd.ntmps25
  go_wp2_with fail
  have X1 := Lib.hid (show Ext w ((w.alloc (.cells #[.int .i64 lo.1, .int .i64 lo.2.1, .int .i64 lo.2.2] 25)).alloc (.cells #[.int .i64 hi.1, .int .i64 hi.2.1, .int .i64 hi.2.2] 25)) from ((Ext.refl w).alloc _).alloc _)
  generalize ((w.alloc (.cells #[.int .i64 lo.1, .int .i64 lo.2.1, .int .i64 lo.2.2] 25)).alloc (.cells #[.int .i64 hi.1, .int .i64 hi.2.1, .int .i64 hi.2.2] 25)) = w1 at *
  refine ((H.out.ext X1.out).grow scap).mono ?_
  rintro e w2 ⟨tq, t, g, cap, rfl, hT, hp, hown, hx⟩
  have HT := Lib.hid hT; have HP := Lib.hid hp; have X2 := Lib.hid (X1.out.trans hx); have HD := Lib.hid (own_mono hown X1.out.size)
  clear hT hp hown hx
  go_wp2_with fail
  refine (bound_top HT.out).mono ?_
  rintro e w3 ⟨rfl, hx3⟩
  have X3 := Lib.hid (X2.out.trans hx3); have T3' := Lib.hid (HT.out.ext hx3); have HD3 := Lib.hid (kept_ext hx3 HD.out)
  clear hx3 HD X2
  go_wp2_with fail
  refine (inbound_top (bx := (I lo.1, I lo.2.1, I hi.1, I hi.2.1)) T3'.out (fin_box H.out.box) (nds_len HP.out H.out.len)).mono ?_
  rintro e w4 ⟨sv, us, rfl, hown, hperm, hx4⟩
  have HO := Lib.hid hown; have X4 := Lib.hid (X3.out.trans hx4); have HD4 := Lib.hid (kept_ext hx4 HD3.out)
  have HPM := Lib.hid (show us.Perm (plst lo hi ss ss.length) from by
    have e : (its t).filter (fun x => true && !outB x (I lo.1, I lo.2.1, I hi.1, I hi.2.1)) = its t := List.filter_eq_self.2 fun x hx => by
      rw [inr_iff.2 (reg_its T3'.out.reg x hx)]; rfl
    rw [e] at hperm
    exact hperm.trans HP.out)
  clear hown hperm hx4 HD3 X3
  go_wp2_with fail
  refine (items_any sv us _ w4 HO.out (by
    have h1 := HPM.out.length_eq
    have h3 := plst_len lo hi ss ss.length
    have := H.out.len
    omega)).mono ?_
  rintro e w5 ⟨g5, c5, rfl, hown5, hx5⟩
  have FIN := Lib.hid (show GrownSays lo hi ss w (.returned (.tuple #[.slice (some ⟨g, 0, none⟩) ss.length cap, .slice (some ⟨g5, 0, none⟩) us.length c5])) w5 from ⟨g, cap, g5, c5, us, rfl, kept_ext hx5 HD4.out, own_mono hown5 X4.out.size, HPM.out, X4.out.trans hx5⟩)
  clear hown5 hx5
  go_wp2_with fail
  go_ret2
  exact FIN.out

end Go.Proofs.YtmmmknmncdlopaaDoor
