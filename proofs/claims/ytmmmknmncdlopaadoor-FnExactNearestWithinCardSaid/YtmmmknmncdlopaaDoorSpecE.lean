/- spec.Sorted: items in order. Conditions: no more than 65536 items. -/
import Derived.Test.YtmmmknmncdlopaaDoorSorts
namespace Go.Proofs.YtmmmknmncdlopaaDoor
open Go.ChangeShapes Go.WideShapes Go.ChangeAt Go.RowKit
open Go.Proofs.YtmmmknmncdlopaaDoor.F

/-- Items in order: those of a list. -/
def SortSays (us : List T3) (w : World) (e : Ending) (w' : World) : Prop :=
  ∃ g cap L, e = .returned (.slice (some ⟨g, 0, none⟩) us.length cap) ∧ w'.ownsRow w.heap.size 25 3 (.slice (some ⟨g, 0, none⟩) us.length cap) us.length (cells3 L) ∧ L.Perm us ∧ Ord lt3 L ∧ Ext w w'

/-- While an item goes to its place. -/
structure SI (W wr : World) (g cap n : Nat) (A : List T3) (x : T3) (k : Nat) : Prop where
  own : wr.ownsRow W.heap.size 25 3 (.slice (some ⟨g, 0, none⟩) n cap) n (cells3 (ins A x k))
  len : A.length + 1 = n
  le : k ≤ A.length
  ord : Ord lt3 A
  right : ∀ y ∈ A.drop k, lt3 x y = true
  ext : Ext W wr
theorem SI.ext' {W wr w2 : World} {g cap n k : Nat} {A : List T3} {x : T3} (h : SI W wr g cap n A x k) (hx : Ext wr w2) : SI W w2 g cap n A x k :=
  ⟨kept_ext hx h.own, h.len, h.le, h.ord, h.right, h.ext.trans hx⟩
/-- The two stores. -/
theorem SI.swap {W wr : World} {g cap n k : Nat} {A : List T3} {x y : T3} (h : SI W wr g cap n A x (k + 1)) (hy : A[k]? = some y) (hxy : lt3 x y = true) :
    SI W ((((((wr.setCell ⟨g, (k + 1) * 3, none⟩ (.int .i64 y.1)).setCell ⟨g, (k + 1) * 3 + 1, none⟩ (.int .i64 y.2.1)).setCell ⟨g, (k + 1) * 3 + 2, none⟩ (.int .i64 y.2.2)).setCell ⟨g, k * 3, none⟩ (.int .i64 x.1)).setCell ⟨g, k * 3 + 1, none⟩ (.int .i64 x.2.1)).setCell ⟨g, k * 3 + 2, none⟩ (.int .i64 x.2.2)) g cap n A x k := by
  have hle := h.le
  have hlen := h.len
  have h1 := own_set3 (own_set3 h.own (i := k + 1) (by omega) y) (i := k) (by omega) x
  rw [ins_swap A x y hle hy] at h1
  have hg := (own_lt h.own).1
  exact ⟨h1, hlen, by omega, h.ord, ins_right hle hy h.right hxy, (((((h.ext.setCell hg _).setCell hg _).setCell hg _).setCell hg _).setCell hg _).setCell hg _⟩
/-- At the end. -/
theorem SI.done {W wr : World} {g cap n k : Nat} {A : List T3} {x : T3} (h : SI W wr g cap n A x k) (hl : k = 0 ∨ ∃ y, A[k - 1]? = some y ∧ lt3 x y = false) : Ord lt3 (ins A x k) :=
  ins_ord lt3_asymm lt3_trans h.ord h.le h.right hl

set_option maxRecDepth 8000 in
set_option maxHeartbeats 6400000 in
theorem sorted_some (us : List T3) (base g0 cap0 : Nat) (w : World) (h : OwnI w base g0 cap0 us) (hl : us.length ≤ 65536) :
    Calls Tryd.prog 27 #[.slice (some ⟨g0, 0, none⟩) us.length cap0] w (SortSays us w) := by
  have HU := Lib.hid h
  have hg0 := (own_lt h).2
  clear h
  have N0 := Lib.hid (ownI_nil w)
  go_enter Tryd.func27, Tryd.ntmps27
  go_wp2
  go_loopg [3, 10] us.length (fun r lv iv wr => ∃ (i g cap : Nat) (L : List T3), r + i = us.length ∧ iv = .int .i64 (i : Nat) ∧ lv = .slice (some ⟨g, 0, none⟩) i cap ∧ wr.ownsRow w.heap.size 25 3 (.slice (some ⟨g, 0, none⟩) i cap) i (cells3 L) ∧ L.Perm (us.take i) ∧ Ord lt3 L ∧ Ext w wr)
  case atStart => exact ⟨0, w.heap.size, 0, [], by omega, rfl, rfl, N0.out, by simp, ord_nil, (Ext.refl _).alloc _⟩
  case round =>
    obtain ⟨gR, rfl⟩ : ∃ gR : Nat, gR = gk := ⟨_, rfl⟩
    obtain ⟨wo, rfl⟩ : ∃ wo : World, wo = wr := ⟨_, rfl⟩
    obtain ⟨i, g, cap, A, hR, rfl, rfl, hown, hperm, hord, hx⟩ := hrel
    by_cases hlt : i < us.length
    · obtain ⟨x, hxu⟩ : ∃ x, us[i]? = some x := ⟨_, List.getElem?_eq_getElem hlt⟩
      obtain ⟨d0, d1, d2⟩ := ownI_cells (kept_ext hx HU.out) hxu
      have HXU := Lib.hid hxu; have HO := Lib.hid hown; have HP := Lib.hid hperm; have HR := Lib.hid hord; have HX := Lib.hid hx
      have hgw : g0 < wo.heap.size := Nat.lt_of_lt_of_le hg0 hx.size
      have hAl : A.length = i := by have := hperm.length_eq; rw [List.length_take] at this; omega
      have HAL := Lib.hid hAl
      clear hxu hown hperm hord hAl hx
      go_wp2_with (at_builtin; refine wpList_join rfl (.tmp 14) (.tmp 16) rfl w.heap.size g i cap A rfl (kept_ext ((((Ext.refl wo).alloc (.cells #[.int .i64 x.1, .int .i64 x.2.1, .int .i64 x.2.2] 25))).alloc (.cells #[.int .i64 x.1, .int .i64 x.2.1, .int .i64 x.2.2] 25)) HO.out) ⟨wo.heap.size + 1, 0, none⟩ 1 1 [x] rfl rfl (World.news_of_block (cs := #[.int .i64 x.1, .int .i64 x.2.1, .int .i64 x.2.2]) (t := 25) (fr := (0, 0)) (by have := blk_new (wo.alloc (.cells #[.int .i64 x.1, .int .i64 x.2.1, .int .i64 x.2.2] 25)) (.cells #[.int .i64 x.1, .int .i64 x.2.1, .int .i64 x.2.2] 25); rw [World.size_alloc] at this; exact this)) (i + 1) rfl (by omega) (by have := HX.out.size; simp; omega) (wo.heap.size + 2) (by simp) ?_)
      intro g3 cap3 w6 hown hgrow hat
      have S0 := Lib.hid (show SI w w6 g3 cap3 (i + 1) A x i from
        ⟨by have := hown; rw [← ins_end, HAL.out] at this; exact this, by rw [HAL.out], by rw [HAL.out]; exact Nat.le_refl _, HR.out, by rw [List.drop_of_length_le (by rw [HAL.out]; exact Nat.le_refl _)]; simp,
          Below.grown ((HX.out.alloc _).alloc _) hgrow (by have := HX.out.size; simp; omega) (fun k hk => by injection hk with hk; rw [← hk]; exact (own_lt HO.out).1)⟩)
      clear hown hgrow hat
      go_wp2_with fail
      go_loopg [6] i (fun r kv wr => ∃ (k : Nat), r = k ∧ k ≤ i ∧ kv = .int .i64 (k : Nat) ∧ SI w wr g3 cap3 (i + 1) A x k)
      case atStart => exact ⟨i, rfl, Nat.le_refl _, rfl, S0.out⟩
      case round =>
        obtain ⟨k, hrk, hki, rfl, hS⟩ := hrel
        obtain rfl := hrk.symm
        have HS := Lib.hid hS; clear hS S0
        rcases k with _ | k
        · have g0' : decide ((0 : Int) > 0) = false := by simp
          have g1' : decide ((0 : Int) < 0) = false := by simp
          go_wp2_with fail
          refine region_ext (by kernel_rfl) (by kernel_rfl) (fun hc => ?_)
          repeat (go_big_quiet_step (fail))
          refine wpQuiet_nil ?_
          rintro w3 ⟨⟨_, hw3⟩, rfl⟩
          have S3 := Lib.hid (HS.out.ext' hw3)
          clear hc hw3 g0' g1'
          go_wp2
          go_roundg (gR - 1)
          case measure => omega
          case rel =>
            refine ⟨i + 1, g3, cap3, ins A x 0, by omega, by go_num, rfl, S3.out.own, ?_, S3.out.done (.inl rfl), S3.out.ext⟩
            rw [List.take_add_one, HXU.out]
            exact (ins_perm A x 0).trans ((HP.out.cons x).trans (List.perm_append_singleton x _).symm)
        · obtain ⟨y, hy⟩ : ∃ y, A[k]? = some y := ⟨_, List.getElem?_eq_getElem (by have := HAL.out; omega)⟩
          obtain ⟨e0, e1, e2⟩ := ownN_cells HS.out.own (ins_at A x HS.out.le)
          obtain ⟨f0, f1, f2⟩ := ownN_cells HS.out.own ((ins_before A x HS.out.le).trans hy)
          have HY := Lib.hid hy
          have L0 := fun e : Later wr => e.h.cell e0
          have L1 := fun e : Later wr => e.h.cell e1
          have L2 := fun e : Later wr => e.h.cell e2
          have L3 := fun e : Later wr => e.h.cell f0
          have L4 := fun e : Later wr => e.h.cell f1
          have L5 := fun e : Later wr => e.h.cell f2
          clear hy e0 e1 e2 f0 f1 f2
          have g0' : decide ((k : Int) + 1 > 0) = true := by simp
          have g1' : decide ((0 : Int) < (k : Int) + 1) = true := by simp
          by_cases hxy : lt3 x y = true
          · have HLS := Lib.hid (show ∀ e : Later wr, Calls Tryd.prog 41 #[.agg #[.int .i64 x.1, .int .i64 x.2.1, .int .i64 x.2.2], .agg #[.int .i64 y.1, .int .i64 y.2.1, .int .i64 y.2.2]] e.w fun r w' => r = .returned (.bool true) ∧ Ext e.w w' from fun e => by have := less_any x y e.w; rwa [hxy] at this)
            have HXY := Lib.hid hxy
            clear hxy
            go_wp2_with fail
            refine region_ext (by kernel_rfl) (by kernel_rfl) (fun hc => ?_)
            repeat (go_big_quiet_step (exact Calls.later (HLS.out _)))
            refine wpQuiet_nil ?_
            rintro w3 ⟨⟨_, hw3⟩, rfl⟩
            have S3 := Lib.hid (HS.out.ext' hw3)
            clear L0 L1 L2 L3 L4 L5 hc hw3 HLS g0' g1'
            go_wp2_with fail
            obtain ⟨e0, e1, e2⟩ := ownN_cells S3.out.own (ins_at A x S3.out.le)
            obtain ⟨f0, f1, f2⟩ := ownN_cells S3.out.own ((ins_before A x S3.out.le).trans HY.out)
            have L0 := fun e : Later w3 => e.h.cell e0
            have L1 := fun e : Later w3 => e.h.cell e1
            have L2 := fun e : Later w3 => e.h.cell e2
            have L3 := fun e : Later w3 => e.h.cell f0
            have L4 := fun e : Later w3 => e.h.cell f1
            have L5 := fun e : Later w3 => e.h.cell f2
            clear e0 e1 e2 f0 f1 f2
            have hwk : IntKind.i64.wrap (k : Int) = k := IntWalk.i64_in _ (by omega)
            refine wp_region_any (by kernel_rfl) ?_
            refine take_move (i := 0) (v := .slice (some ⟨g3, 0, none⟩) (i + 1) cap3) rfl (by kernel_rfl) (by kernel_rfl) (by kernel_rfl) (fun _ _ _ _ h => h) rfl (by simp only [List.setIfInBounds_toArray, List.set_cons_succ, List.set_cons_zero]; rfl) ?_
            refine take_move (i := 1) (v := .int .i64 ((k : Int) + 1)) rfl (by kernel_rfl) (by kernel_rfl) (by kernel_rfl) (fun _ _ _ _ h => h) rfl (by simp only [List.setIfInBounds_toArray, List.set_cons_succ, List.set_cons_zero]; rfl) ?_
            refine take_move (i := 2) (v := .slice (some ⟨g3, 0, none⟩) (i + 1) cap3) rfl (by kernel_rfl) (by kernel_rfl) (by kernel_rfl) (fun _ _ _ _ h => h) rfl (by simp only [List.setIfInBounds_toArray, List.set_cons_succ, List.set_cons_zero]; rfl) ?_
            refine take_move (i := 3) (v := .int .i64 ((k : Int) + 1)) rfl (by kernel_rfl) (by kernel_rfl) (by kernel_rfl) (fun _ _ _ _ h => h) rfl (by simp only [List.setIfInBounds_toArray, List.set_cons_succ, List.set_cons_zero]; rfl) ?_
            refine take_op (i := 4) (.int .i64 (k : Int)) rfl (by kernel_rfl) (by kernel_rfl) (by kernel_rfl) (fun _ _ _ _ h => h) (Or.inl ⟨by rfl, by intro w; go_simp⟩) (by simp only [List.setIfInBounds_toArray, List.set_cons_succ, List.set_cons_zero]; rfl) ?_
            refine any_tail_from (C := fun w' => ∃ e : Later w3, w' = e.w) 5 14 (by kernel_rfl) rfl later_drew ?_
            simp only [List.take_succ_cons, List.take_zero, List.drop_succ_cons, List.drop_zero]
            repeat (go_big_quiet_step (fail))
            refine wpQuiet_nil ?_
            rintro w4 ⟨⟨_, hw4⟩, rfl⟩
            have S4 := Lib.hid (S3.out.ext' hw4)
            clear L0 L1 L2 L3 L4 L5 hw4
            have FR := S4.out.own.frozenAt
            obtain ⟨e0, e1, e2⟩ := ownN_cells S4.out.own (ins_at A x S4.out.le)
            obtain ⟨f0, f1, f2⟩ := ownN_cells S4.out.own ((ins_before A x S4.out.le).trans HY.out)
            have S5 := Lib.hid (S4.out.swap HY.out HXY.out)
            clear S4
            go_wp2_with fail
            go_roundg k
            case measure => omega
            case rel => exact ⟨k, rfl, by omega, rfl, S5.out⟩
          · rw [Bool.not_eq_true] at hxy
            have HLS := Lib.hid (show ∀ e : Later wr, Calls Tryd.prog 41 #[.agg #[.int .i64 x.1, .int .i64 x.2.1, .int .i64 x.2.2], .agg #[.int .i64 y.1, .int .i64 y.2.1, .int .i64 y.2.2]] e.w fun r w' => r = .returned (.bool false) ∧ Ext e.w w' from fun e => by have := less_any x y e.w; rwa [hxy] at this)
            have HXY := Lib.hid hxy
            clear hxy
            go_wp2_with fail
            refine region_ext (by kernel_rfl) (by kernel_rfl) (fun hc => ?_)
            repeat (go_big_quiet_step (exact Calls.later (HLS.out _)))
            refine wpQuiet_nil ?_
            rintro w3 ⟨⟨_, hw3⟩, rfl⟩
            have S3 := Lib.hid (HS.out.ext' hw3)
            clear L0 L1 L2 L3 L4 L5 hc hw3 HLS g0' g1'
            go_wp2
            go_roundg (gR - 1)
            case measure => omega
            case rel =>
              refine ⟨i + 1, g3, cap3, ins A x (k + 1), by omega, by go_num, rfl, S3.out.own, ?_, S3.out.done (.inr ⟨y, HY.out, HXY.out⟩), S3.out.ext⟩
              rw [List.take_add_one, HXU.out]
              exact (ins_perm A x (k + 1)).trans ((HP.out.cons x).trans (List.perm_append_singleton x _).symm)
    · have hi2 : i = us.length := by omega
      subst hi2
      rw [List.take_length] at hperm
      have FIN := Lib.hid (show SortSays us w (.returned (.slice (some ⟨g, 0, none⟩) us.length cap)) wo from ⟨g, cap, A, rfl, hown, hperm, hord, hx⟩)
      clear hown hperm hord hx
      go_wp2
      exact bodyPost_ret (v := .slice (some ⟨g, 0, none⟩) us.length cap) (by simp [results, Tryd.results27, go_sem]) rfl FIN.out

end Go.Proofs.YtmmmknmncdlopaaDoor
