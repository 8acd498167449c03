/- spec.Part, Dist. Conditions: no more than 65536 items; small coordinates. -/
import Derived.Test.YtmmmknmncdlopaaDoorSpecF
import Derived.Deep.CutRange
namespace Go.Proofs.YtmmmknmncdlopaaDoor
open Go.ChangeShapes Go.WideShapes Go.ChangeAt Go.RowKit
open Go.Proofs.YtmmmknmncdlopaaDoor.F

/-- Whether an item belongs to the part. -/
def prt (p q : T3) (ev : Bool) (x : T3) : Bool := inb p q x && (!ev || evn x)
theorem evn_mod (x : T3) : (x.2.2.tmod 2 == 0) = evn x := by
  unfold evn
  rw [Bool.eq_iff_iff, beq_iff_eq, beq_iff_eq, ← Int.dvd_iff_tmod_eq_zero, ← Int.dvd_iff_emod_eq_zero]

/-- A list of a call's own. -/
def ListSays (ls : List T3) (w : World) (e : Ending) (w' : World) : Prop :=
  ∃ g cap, e = .returned (.slice (some ⟨g, 0, none⟩) ls.length cap) ∧ OwnI w' w.heap.size g cap ls ∧ Ext w w'

theorem filter_take_yes {f : T3 → Bool} {us : List T3} {i : Nat} {x : T3} (h : us[i]? = some x) (hf : f x = true) : (us.take (i + 1)).filter f = (us.take i).filter f ++ [x] := by
  rw [List.take_add_one, h, List.filter_append]; simp [hf]
theorem filter_take_no {f : T3 → Bool} {us : List T3} {i : Nat} {x : T3} (h : us[i]? = some x) (hf : f x = false) : (us.take (i + 1)).filter f = (us.take i).filter f := by
  rw [List.take_add_one, h, List.filter_append]; simp [hf]

set_option maxRecDepth 8000 in
set_option maxHeartbeats 6400000 in
theorem part_any (us : List T3) (base g0 cap0 : Nat) (p q : T3) (ev : Bool) (w : World) (h : OwnI w base g0 cap0 us) (hl : us.length ≤ 65536) :
    Calls Tryd.prog 23 #[.slice (some ⟨g0, 0, none⟩) us.length cap0, .agg #[.int .i64 p.1, .int .i64 p.2.1, .int .i64 p.2.2], .agg #[.int .i64 q.1, .int .i64 q.2.1, .int .i64 q.2.2], .bool ev] w (ListSays (us.filter (prt p q ev)) w) := by
  have HU := Lib.hid h
  have hg0 := (own_lt h).2
  clear h
  go_enter Tryd.func23, Tryd.ntmps23
  go_wp2_with fail
  have BL := Lib.hid (blk_old (blk_new w (.cells #[.int .i64 p.1, .int .i64 p.2.1, .int .i64 p.2.2] 25)) (.cells #[.int .i64 q.1, .int .i64 q.2.1, .int .i64 q.2.2] 25))
  have BH := Lib.hid (by have := blk_new (w.alloc (.cells #[.int .i64 p.1, .int .i64 p.2.1, .int .i64 p.2.2] 25)) (.cells #[.int .i64 q.1, .int .i64 q.2.1, .int .i64 q.2.2] 25); rw [World.size_alloc] at this; exact this)
  have X1 := Lib.hid (((Ext.refl w).alloc (.cells #[.int .i64 p.1, .int .i64 p.2.1, .int .i64 p.2.2] 25)).alloc (.cells #[.int .i64 q.1, .int .i64 q.2.1, .int .i64 q.2.2] 25))
  have hz1 : ((w.alloc (.cells #[.int .i64 p.1, .int .i64 p.2.1, .int .i64 p.2.2] 25)).alloc (.cells #[.int .i64 q.1, .int .i64 q.2.1, .int .i64 q.2.2] 25)).heap.size = w.heap.size + 1 + 1 := by simp
  have HZ1 := Lib.hid hz1
  clear hz1
  generalize (w.alloc (.cells #[.int .i64 p.1, .int .i64 p.2.1, .int .i64 p.2.2] 25)).alloc (.cells #[.int .i64 q.1, .int .i64 q.2.1, .int .i64 q.2.2] 25) = w1 at *
  have N0 := Lib.hid (ownI_nil w1)
  rw [HZ1.out] at N0
  go_loopg [9, 15] us.length (fun r lv iv wr => ∃ (i g n cap : Nat), r + i = us.length ∧ iv = .int .i64 (i : Nat) ∧ lv = .slice (some ⟨g, 0, none⟩) n cap ∧ n = ((us.take i).filter (prt p q ev)).length ∧ wr.ownsRow (w.heap.size + 1 + 1) 25 3 (.slice (some ⟨g, 0, none⟩) n cap) n (cells3 ((us.take i).filter (prt p q ev))) ∧ Ext w1 wr)
  case atStart => exact ⟨0, _, 0, 0, by omega, rfl, rfl, rfl, N0.out, (Ext.refl _).alloc _⟩
  case round =>
    obtain ⟨i, g, n, cap, hR, rfl, rfl, hn, hown, hx⟩ := hrel
    have HO := Lib.hid hown; have HX := Lib.hid hx; have HNL := Lib.hid hn
    have hnl : n ≤ 65536 := by
      have := List.length_filter_le (prt p q ev) (us.take i)
      rw [List.length_take] at this; omega
    clear hown hx hn
    by_cases hlt : i < us.length
    · obtain ⟨x, hxu⟩ : ∃ x, us[i]? = some x := ⟨_, List.getElem?_eq_getElem hlt⟩
      obtain ⟨d0, d1, d2⟩ := ownI_cells (kept_ext (X1.out.trans HX.out) HU.out) hxu
      have HXU := Lib.hid hxu
      have hw3 : w.heap.size + 1 + 1 ≤ wr.heap.size := by have := HX.out.size; have := HZ1.out; omega
      have hgw : g0 < wr.heap.size := by omega
      have hw1 : w.heap.size < wr.heap.size := by omega
      have hw2 : w.heap.size + 1 < wr.heap.size := by omega
      have CL := cell_of_blk (blk_old (Ext.blk HX.out BL.out) (.cells #[.int .i64 x.1, .int .i64 x.2.1, .int .i64 x.2.2] 25))
      have CH := cell_of_blk (blk_old (Ext.blk HX.out BH.out) (.cells #[.int .i64 x.1, .int .i64 x.2.1, .int .i64 x.2.2] 25))
      have BB := Lib.hid (blk_new wr (.cells #[.int .i64 x.1, .int .i64 x.2.1, .int .i64 x.2.2] 25))
      have XB := Lib.hid ((Ext.refl wr).alloc (.cells #[.int .i64 x.1, .int .i64 x.2.1, .int .i64 x.2.2] 25))
      have hwr : IntKind.i64.wrap (x.2.2.tmod 2) = x.2.2.tmod 2 := IntWalk.i64_in _ (by have := Int.tmod_lt_of_pos x.2.2 (show (0:Int) < 2 by decide); have := Int.lt_tmod_of_pos x.2.2 (show (0:Int) < 2 by decide); omega)
      have HI := Lib.hid (fun W => in_any p q x W)
      have HEV := Lib.hid (evn_mod x)
      clear hxu
      by_cases hf : prt p q ev x = true
      · have HF := Lib.hid hf
        go_upto_region 5 with fail
        go_cut [32] from 19 to 31 (fun s wx => s = .bool true ∧ Ext (wr.alloc (.cells #[.int .i64 x.1, .int .i64 x.2.1, .int .i64 x.2.2] 25)) wx)
        case first =>
          have hin : inb p q x = true := by
            unfold prt at hf; simp only [Bool.and_eq_true] at hf; exact hf.1
          rw [hin] at HI
          rcases ev with _ | _
          · clear hf hin
            go_wp2_with fail
            refine (HI.out _).mono ?_
            rintro e w5 ⟨rfl, hx5⟩
            have C5 := cell_of_blk (Ext.blk hx5 BB.out)
            have X5 := Lib.hid hx5
            clear hx5 CL CH
            go_wp2_with fail
            go_meet
            exact ⟨rfl, X5.out⟩
          · have hev : (x.2.2.tmod 2 == 0) = true := by
              rw [HEV.out]
              unfold prt at hf; simp only [Bool.and_eq_true, Bool.not_true, Bool.false_or] at hf; exact hf.2
            clear hf hin
            go_wp2_with fail
            refine (HI.out _).mono ?_
            rintro e w5 ⟨rfl, hx5⟩
            have C5 := cell_of_blk (Ext.blk hx5 BB.out)
            have X5 := Lib.hid hx5
            clear hx5 CL CH
            go_wp2_with fail
            go_meet
            exact ⟨rfl, X5.out⟩
        case rest =>
          obtain ⟨rfl, hxc⟩ := hcut
          have XC := Lib.hid (XB.out.trans hxc)
          have CC := cell_of_blk (Ext.blk hxc BB.out)
          clear hxc CL CH hf HI
          go_wp2_with (at_builtin; refine wpList_join rfl (.tmp 33) (.tmp 35) rfl (w.heap.size + 1 + 1) g n cap ((us.take i).filter (prt p q ev)) rfl (kept_ext (XC.out.alloc (.cells #[.int .i64 x.1, .int .i64 x.2.1, .int .i64 x.2.2] 25)) HO.out) ⟨wc.heap.size, 0, none⟩ 1 1 [x] rfl rfl (World.news_of_block (cs := #[.int .i64 x.1, .int .i64 x.2.1, .int .i64 x.2.2]) (t := 25) (fr := (0, 0)) (heap_alloc_new wc _)) (n + 1) rfl (by omega) (by have := XC.out.size; rw [World.size_alloc]; omega) (wc.heap.size + 1) (by simp) ?_)
          intro g3 cap3 w6 hown hgrow hat
          have G2 := Lib.hid (show w6.ownsRow (w.heap.size + 1 + 1) 25 3 (.slice (some ⟨g3, 0, none⟩) (n + 1) cap3) (n + 1) (cells3 ((us.take (i + 1)).filter (prt p q ev))) ∧ Ext w1 w6 from
            ⟨by rw [filter_take_yes HXU.out HF.out]; exact hown, Below.grown (HX.out.trans (XC.out.alloc _)) hgrow (by have := XC.out.size; rw [World.size_alloc]; have := HX.out.size; omega) (fun k hk => by injection hk with hk; rw [← hk, HZ1.out]; exact (own_lt HO.out).1)⟩)
          clear hown hgrow hat
          go_wp2
          go_roundg (gk - 1)
          case measure => omega
          case rel => exact ⟨i + 1, g3, n + 1, cap3, by omega, by go_num, rfl, by rw [filter_take_yes HXU.out HF.out, List.length_append, ← HNL.out]; rfl, G2.out.1, G2.out.2⟩
      · rw [Bool.not_eq_true] at hf
        have HF := Lib.hid hf
        go_upto_region 5 with fail
        go_cut [32] from 19 to 31 (fun s wx => s = .bool false ∧ Ext (wr.alloc (.cells #[.int .i64 x.1, .int .i64 x.2.1, .int .i64 x.2.2] 25)) wx)
        case first =>
          by_cases hin : inb p q x = true
          · rw [hin] at HI
            obtain rfl : ev = true := by
              unfold prt at hf; rw [hin] at hf; cases ev
              · simp at hf
              · rfl
            have hev : (x.2.2.tmod 2 == 0) = false := by
              rw [HEV.out]
              unfold prt at hf; rw [hin] at hf; simpa using hf
            clear hf hin
            go_wp2_with fail
            refine (HI.out _).mono ?_
            rintro e w5 ⟨rfl, hx5⟩
            have C5 := cell_of_blk (Ext.blk hx5 BB.out)
            have X5 := Lib.hid hx5
            clear hx5 CL CH
            go_wp2_with fail
            go_meet
            exact ⟨rfl, X5.out⟩
          · rw [Bool.not_eq_true] at hin
            rw [hin] at HI
            clear hf hin
            go_wp2_with fail
            refine (HI.out _).mono ?_
            rintro e w5 ⟨rfl, hx5⟩
            have C5 := cell_of_blk (Ext.blk hx5 BB.out)
            have X5 := Lib.hid hx5
            clear hx5 CL CH
            go_wp2_with fail
            go_meet
            exact ⟨rfl, X5.out⟩
        case rest =>
          obtain ⟨rfl, hxc⟩ := hcut
          have XC := Lib.hid (XB.out.trans hxc)
          clear hxc CL CH hf HI
          go_wp2
          go_roundg (gk - 1)
          case measure => omega
          case rel => exact ⟨i + 1, g, n, cap, by omega, by go_num, rfl, by rw [filter_take_no HXU.out HF.out]; exact HNL.out, by rw [filter_take_no HXU.out HF.out]; exact kept_ext XC.out HO.out, HX.out.trans XC.out⟩
    · have hi2 : i = us.length := by omega
      subst hi2
      have FIN := Lib.hid (show ListSays (us.filter (prt p q ev)) w (.returned (.slice (some ⟨g, 0, none⟩) n cap)) wr from by
        have e := HNL.out; have o := HO.out
        rw [List.take_length] at e o
        exact ⟨g, cap, by rw [e], (by unfold OwnI; rw [← e]; exact own_mono o (by omega)), X1.out.trans HX.out⟩)
      go_wp2_with fail
      exact bodyPost_ret (v := .slice (some ⟨g, 0, none⟩) n cap) (by simp [results, Tryd.results23, go_sem]) rfl FIN.out

end Go.Proofs.YtmmmknmncdlopaaDoor
