/- spec.Dist, Dists: distances, ascending. Conditions: no more than 65536 items; small coordinates. -/
import Derived.Test.YtmmmknmncdlopaaDoorSpecG
namespace Go.Proofs.YtmmmknmncdlopaaDoor
open Go.ChangeShapes Go.WideShapes Go.ChangeAt Go.RowKit
open Go.Proofs.YtmmmknmncdlopaaDoor.F

set_option maxHeartbeats 1600000 in
theorem sdist_any (p q : T3) (w : World) (hp : p.1.natAbs ≤ 65536 ∧ p.2.1.natAbs ≤ 65536) (hq : q.1.natAbs ≤ 65536 ∧ q.2.1.natAbs ≤ 65536) :
    Calls Tryd.prog 20 #[.agg #[.int .i64 p.1, .int .i64 p.2.1, .int .i64 p.2.2], .agg #[.int .i64 q.1, .int .i64 q.2.1, .int .i64 q.2.2]] w fun e w' => e = .returned (.int .i64 (dsq q.1 q.2.1 p)) ∧ Ext w w' := by
  obtain ⟨a, b, c⟩ := p
  obtain ⟨d, e, f⟩ := q
  dsimp only at *
  have HD := Lib.hid (show dsq d e (a, b, c) = (a - d) * (a - d) + (b - e) * (b - e) from rfl)
  have m1 : ((a - d) * (a - d)).natAbs ≤ 131072 * 131072 := by rw [Int.natAbs_mul]; exact Nat.mul_le_mul (by omega) (by omega)
  have m2 : ((b - e) * (b - e)).natAbs ≤ 131072 * 131072 := by rw [Int.natAbs_mul]; exact Nat.mul_le_mul (by omega) (by omega)
  have l1 : -17179869184 ≤ (a - d) * (a - d) := by omega
  have l2 : (a - d) * (a - d) ≤ 17179869184 := by omega
  have l3 : -17179869184 ≤ (b - e) * (b - e) := by omega
  have l4 : (b - e) * (b - e) ≤ 17179869184 := by omega
  clear m1 m2
  have hp1 : -65536 ≤ a ∧ a ≤ 65536 ∧ -65536 ≤ b ∧ b ≤ 65536 := by omega
  have hq1 : -65536 ≤ d ∧ d ≤ 65536 ∧ -65536 ≤ e ∧ e ≤ 65536 := by omega
  have hs1 : IntKind.i64.wrap (a - d) = a - d := IntWalk.i64_in _ (by omega)
  have hs2 : IntKind.i64.wrap (b - e) = b - e := IntWalk.i64_in _ (by omega)
  have hs3 : IntKind.i64.wrap ((a - d) * (a - d)) = (a - d) * (a - d) := IntWalk.i64_in _ (by omega)
  have hs4 : IntKind.i64.wrap ((b - e) * (b - e)) = (b - e) * (b - e) := IntWalk.i64_in _ (by omega)
  have hs5 : IntKind.i64.wrap ((a - d) * (a - d) + (b - e) * (b - e)) = (a - d) * (a - d) + (b - e) * (b - e) := IntWalk.i64_in _ (by omega)
  clear hp hq
  go_enter Tryd.func20, Tryd.ntmps20
  go_wp2
  exact bodyPost_ret (v := .int .i64 (dsq d e (a, b, c))) (by rw [HD.out]; simp [results, Tryd.results20, go_sem]) rfl ⟨rfl, ((Ext.refl _).alloc _).alloc _⟩

/-- Whole numbers as cells. -/
def ints (L : List Int) : List Value := L.map (.int .i64)
theorem ints_append (a b : List Int) : ints (a ++ b) = ints a ++ ints b := List.map_append
theorem ints_len (a : List Int) : (ints a).length = a.length := List.length_map _
theorem ownJ_cell {w : World} {base g cap n : Nat} {L : List Int} (h : w.ownsRow base 3 1 (.slice (some ⟨g, 0, none⟩) n cap) n (ints L)) {i : Nat} {t : Int} (ht : L[i]? = some t) : w.cell? ⟨g, i, none⟩ = some (.int .i64 t) := by
  have hl : L.length = n := by have := h.1; rw [ints_len] at this; omega
  have hi : i < L.length := (List.getElem?_eq_some_iff.1 ht).1
  rw [h.cellAt i (by omega)]
  unfold ints; rw [List.getElem?_map, ht]; rfl
theorem own_set1 {w : World} {base g cap n : Nat} {L : List Int} (h : w.ownsRow base 3 1 (.slice (some ⟨g, 0, none⟩) n cap) n (ints L)) {i : Nat} (hi : i < n) (t : Int) :
    (w.setCell ⟨g, i, none⟩ (.int .i64 t)).ownsRow base 3 1 (.slice (some ⟨g, 0, none⟩) n cap) n (ints (L.set i t)) := by
  have h1 := own_set h i (.int .i64 t) (by omega)
  unfold ints at *
  rwa [← List.map_set] at h1
/-- Whether a number is less. -/
def ltI (a b : Int) : Bool := decide (a < b)
theorem ltI_asymm (a b : Int) (h : ltI a b = true) : ltI b a = false := by unfold ltI at *; simp at *; omega
theorem ltI_trans (a b c : Int) (h1 : ltI b a = false) (h2 : ltI c b = false) : ltI c a = false := by unfold ltI at *; simp at *; omega
theorem ltI_anti (a b : Int) (h1 : ltI a b = false) (h2 : ltI b a = false) : a = b := by unfold ltI at *; simp at *; omega
theorem infoJ : (Tryd.prog.info? 3).map (fun i => (i.zero, i.size, i.bytes)) = some (some (.int .i64 0), 1, 8) := by kernel_rfl

/-- The distances of a list, ascending. -/
def DistSays (us : List T3) (p : T3) (w : World) (e : Ending) (w' : World) : Prop :=
  ∃ g cap L, e = .returned (.slice (some ⟨g, 0, none⟩) us.length cap) ∧ w'.ownsRow w.heap.size 3 1 (.slice (some ⟨g, 0, none⟩) us.length cap) us.length (ints L) ∧ L.Perm (us.map (dsq p.1 p.2.1)) ∧ Ord ltI L ∧ Ext w w'

/-- While a number goes to its place. -/
structure SJ (W wr : World) (g cap n : Nat) (A : List Int) (x : Int) (k : Nat) : Prop where
  own : wr.ownsRow W.heap.size 3 1 (.slice (some ⟨g, 0, none⟩) n cap) n (ints (ins A x k))
  len : A.length + 1 = n
  le : k ≤ A.length
  ord : Ord ltI A
  right : ∀ y ∈ A.drop k, ltI x y = true
  ext : Ext W wr
theorem SJ.ext' {W wr w2 : World} {g cap n k : Nat} {A : List Int} {x : Int} (h : SJ W wr g cap n A x k) (hx : Ext wr w2) : SJ W w2 g cap n A x k :=
  ⟨kept_ext hx h.own, h.len, h.le, h.ord, h.right, h.ext.trans hx⟩
theorem SJ.swap {W wr : World} {g cap n k : Nat} {A : List Int} {x y : Int} (h : SJ W wr g cap n A x (k + 1)) (hy : A[k]? = some y) (hxy : ltI x y = true) :
    SJ W ((wr.setCell ⟨g, k + 1, none⟩ (.int .i64 y)).setCell ⟨g, k, none⟩ (.int .i64 x)) g cap n A x k := by
  have hle := h.le
  have hlen := h.len
  have h1 := own_set1 (own_set1 h.own (i := k + 1) (by omega) y) (i := k) (by omega) x
  rw [ins_swap A x y hle hy] at h1
  have hg := (own_lt h.own).1
  exact ⟨h1, hlen, by omega, h.ord, ins_right hle hy h.right hxy, (h.ext.setCell hg _).setCell hg _⟩
theorem SJ.done {W wr : World} {g cap n k : Nat} {A : List Int} {x : Int} (h : SJ W wr g cap n A x k) (hl : k = 0 ∨ ∃ y, A[k - 1]? = some y ∧ ltI x y = false) : Ord ltI (ins A x k) :=
  ins_ord ltI_asymm ltI_trans h.ord h.le h.right hl

set_option maxRecDepth 8000 in
set_option maxHeartbeats 6400000 in
theorem dists_any (us : List T3) (base g0 cap0 : Nat) (p : T3) (w : World) (h : OwnI w base g0 cap0 us) (hl : us.length ≤ 65536) (hus : ∀ u ∈ us, Sm u) (hp : p.1.natAbs ≤ 65536 ∧ p.2.1.natAbs ≤ 65536) :
    Calls Tryd.prog 17 #[.slice (some ⟨g0, 0, none⟩) us.length cap0, .agg #[.int .i64 p.1, .int .i64 p.2.1, .int .i64 p.2.2]] w (DistSays us p w) := by
  have HU := Lib.hid h; have HS := Lib.hid hus; have HPB := Lib.hid hp
  have hg0 := (own_lt h).2
  clear h hus hp
  obtain ⟨i0, hi0, hz0, hz1, hz2⟩ := info_parts infoJ
  have INF := Lib.hid (show Tryd.prog.info? 3 = some i0 ∧ i0.zero = some (.int .i64 0) ∧ i0.size = 1 ∧ i0.bytes = 8 from ⟨hi0, hz0, hz1, hz2⟩)
  clear hi0 hz0 hz1 hz2
  go_enter Tryd.func17, Tryd.ntmps17
  go_wp2_with fail
  have BP := Lib.hid (blk_new w (.cells #[.int .i64 p.1, .int .i64 p.2.1, .int .i64 p.2.2] 25))
  have X1 := Lib.hid ((Ext.refl w).alloc (.cells #[.int .i64 p.1, .int .i64 p.2.1, .int .i64 p.2.2] 25))
  have hz1 : (w.alloc (.cells #[.int .i64 p.1, .int .i64 p.2.1, .int .i64 p.2.2] 25)).heap.size = w.heap.size + 1 := by simp
  have HZ1 := Lib.hid hz1
  clear hz1
  generalize w.alloc (.cells #[.int .i64 p.1, .int .i64 p.2.1, .int .i64 p.2.2] 25) = w1 at *
  have N0 := Lib.hid (show (w1.alloc (.cells #[] 3)).ownsRow w1.heap.size 3 1 (.slice (some ⟨w.heap.size + 1, 0, none⟩) 0 0) 0 (ints []) from ⟨rfl, .inr ⟨_, 0, #[], rfl, by rw [HZ1.out]; omega, by rw [← HZ1.out]; exact blk_new w1 _, Nat.le_refl _, by simp [maxLen], rfl, rfl⟩⟩)
  go_loopg [5, 12] us.length (fun r lv iv wr => ∃ (i g cap : Nat) (L : List Int), r + i = us.length ∧ iv = .int .i64 (i : Nat) ∧ lv = .slice (some ⟨g, 0, none⟩) i cap ∧ wr.ownsRow w1.heap.size 3 1 (.slice (some ⟨g, 0, none⟩) i cap) i (ints L) ∧ L.Perm ((us.take i).map (dsq p.1 p.2.1)) ∧ Ord ltI L ∧ Ext w1 wr)
  case atStart => exact ⟨0, _, 0, [], by omega, rfl, rfl, N0.out, by simp, ord_nil, (Ext.refl _).alloc _⟩
  case round =>
    obtain ⟨gR, rfl⟩ : ∃ gR : Nat, gR = gk := ⟨_, rfl⟩
    obtain ⟨wo, rfl⟩ : ∃ wo : World, wo = wr := ⟨_, rfl⟩
    obtain ⟨i, g, cap, A, hR, rfl, rfl, hown, hperm, hord, hx⟩ := hrel
    by_cases hlt : i < us.length
    · obtain ⟨u, hxu⟩ : ∃ x, us[i]? = some x := ⟨_, List.getElem?_eq_getElem hlt⟩
      obtain ⟨d0, d1, d2⟩ := ownI_cells (kept_ext (X1.out.trans hx) HU.out) hxu
      have hsm := HS.out u (List.mem_of_getElem? hxu)
      have HD := Lib.hid (fun W => sdist_any u p W ⟨by have := hsm.1; omega, by have := hsm.2; omega⟩ HPB.out)
      have HXU := Lib.hid hxu; have HO := Lib.hid hown; have HP := Lib.hid hperm; have HR := Lib.hid hord; have HX := Lib.hid hx
      have hw1 : w.heap.size + 1 ≤ wo.heap.size := by rw [← HZ1.out]; exact hx.size
      have hgw : g0 < wo.heap.size := by omega
      have hAl : A.length = i := by have := hperm.length_eq; rw [List.length_map, List.length_take] at this; omega
      have HAL := Lib.hid hAl
      have CP := cell_of_blk (blk_old (Ext.blk hx BP.out) (.cells #[.int .i64 u.1, .int .i64 u.2.1, .int .i64 u.2.2] 25))
      have hw2 : w.heap.size < wo.heap.size := by omega
      have hdn := dsq_nonneg p.1 p.2.1 u
      have hdl := dsq_lt HPB.out.1 HPB.out.2 hsm
      clear hxu hown hperm hord hAl hx hsm
      go_wp2_with fail
      refine (HD.out _).mono ?_
      rintro e w5 ⟨rfl, hx5⟩
      have X5 := Lib.hid (((Ext.refl wo).alloc _).trans hx5)
      generalize hdx : dsq p.1 p.2.1 u = x at *
      have HDX := Lib.hid hdx
      clear hx5 CP hdx HD
      go_wp2_with (at_builtin; refine wpList_append_lies _ rfl (.tmp 16) (.tmp 20) 42 rfl w1.heap.size 3 i0 (.int .i64 0) 1 8 Tryd.underlying42 INF.out.1 INF.out.2.1 INF.out.2.2.1 INF.out.2.2.2 rfl (by decide) _ i (ints A) rfl (kept_ext (X5.out.alloc _) HO.out) ⟨w5.heap.size, 0, none⟩ 1 1 [.int .i64 x] rfl rfl (World.news_of_block (cs := #[.int .i64 x]) (t := 3) (fr := (0, 0)) (heap_alloc_new w5 _)) (by simp [Value.oneCell']) (by omega) (by simp only [maxLen]; omega) (by omega) (by have := HX.out.size; have := X5.out.size; rw [World.size_alloc]; omega) (w5.heap.size + 1) (by simp) ?_)
      intro g3 cap3 w6 hown hgrow hat hlt6
      have S0 := Lib.hid (show SJ w1 w6 g3 cap3 (i + 1) A x i from
        ⟨by have := hown; rw [show ints A ++ [.int .i64 x] = ints (A ++ [x]) from by rw [ints_append]; rfl, ← ins_end, HAL.out] at this; exact this, by rw [HAL.out], by rw [HAL.out]; exact Nat.le_refl _, HR.out, by rw [List.drop_of_length_le (by rw [HAL.out]; exact Nat.le_refl _)]; simp,
          Below.grown (HX.out.trans (X5.out.alloc _)) hgrow (by have := HX.out.size; have := X5.out.size; rw [World.size_alloc]; omega) (fun k hk => by injection hk with hk; rw [← hk]; exact (own_lt HO.out).1)⟩)
      clear hown hgrow hat hlt6
      go_wp2_with fail
      go_loopg [8] i (fun r kv wr => ∃ (k : Nat), r = k ∧ k ≤ i ∧ kv = .int .i64 (k : Nat) ∧ SJ w1 wr g3 cap3 (i + 1) A x k)
      case atStart => exact ⟨i, rfl, Nat.le_refl _, rfl, S0.out⟩
      case round =>
        obtain ⟨k, hrk, hki, rfl, hS⟩ := hrel
        obtain rfl := hrk.symm
        have HS := Lib.hid hS; clear hS S0
        rcases k with _ | k
        · have g0' : decide ((0 : Int) > 0) = false := by simp
          have g1' : decide ((0 : Int) < 0) = false := by simp
          go_wp2_with fail
          refine region_ext (by kernel_rfl) (by kernel_rfl) (fun hc => ?_)
          repeat (go_big_quiet_step (fail))
          refine wpQuiet_nil ?_
          rintro w3 ⟨⟨_, hw3⟩, rfl⟩
          have S3 := Lib.hid (HS.out.ext' hw3)
          clear hc hw3 g0' g1'
          go_wp2
          go_roundg (gR - 1)
          case measure => omega
          case rel =>
            refine ⟨i + 1, g3, cap3, ins A x 0, by omega, by go_num, rfl, S3.out.own, ?_, S3.out.done (.inl rfl), S3.out.ext⟩
            rw [List.take_add_one, HXU.out, List.map_append]
            refine (ins_perm A x 0).trans ((HP.out.cons x).trans ?_)
            rw [← HDX.out]; exact (List.perm_append_singleton _ _).symm
        · obtain ⟨y, hy⟩ : ∃ y, A[k]? = some y := ⟨_, List.getElem?_eq_getElem (by have := HAL.out; omega)⟩
          have e0 := ownJ_cell HS.out.own (ins_at A x HS.out.le)
          have f0 := ownJ_cell HS.out.own ((ins_before A x HS.out.le).trans hy)
          have HY := Lib.hid hy
          have L0 := fun e : Later wr => e.h.cell e0
          have L3 := fun e : Later wr => e.h.cell f0
          clear hy e0 f0
          have g0' : decide ((k : Int) + 1 > 0) = true := by simp
          have g1' : decide ((0 : Int) < (k : Int) + 1) = true := by simp
          by_cases hxy : ltI x y = true
          · have HXY := Lib.hid hxy
            have hd : decide (x < y) = true := hxy
            clear hxy
            go_wp2_with fail
            refine region_ext (by kernel_rfl) (by kernel_rfl) (fun hc => ?_)
            repeat (go_big_quiet_step (fail))
            refine wpQuiet_nil ?_
            rintro w3 ⟨⟨_, hw3⟩, rfl⟩
            have S3 := Lib.hid (HS.out.ext' hw3)
            clear L0 L3 hc hw3 g0' g1' hd
            go_wp2_with fail
            have e0 := ownJ_cell S3.out.own (ins_at A x S3.out.le)
            have f0 := ownJ_cell S3.out.own ((ins_before A x S3.out.le).trans HY.out)
            have L0 := fun e : Later w3 => e.h.cell e0
            have L3 := fun e : Later w3 => e.h.cell f0
            clear e0 f0
            have hwk : IntKind.i64.wrap (k : Int) = k := IntWalk.i64_in _ (by omega)
            refine wp_region_any (by kernel_rfl) ?_
            refine take_move (i := 0) (v := .slice (some ⟨g3, 0, none⟩) (i + 1) cap3) rfl (by kernel_rfl) (by kernel_rfl) (by kernel_rfl) (fun _ _ _ _ h => h) rfl (by simp only [List.setIfInBounds_toArray, List.set_cons_succ, List.set_cons_zero]; rfl) ?_
            refine take_move (i := 1) (v := .int .i64 ((k : Int) + 1)) rfl (by kernel_rfl) (by kernel_rfl) (by kernel_rfl) (fun _ _ _ _ h => h) rfl (by simp only [List.setIfInBounds_toArray, List.set_cons_succ, List.set_cons_zero]; rfl) ?_
            refine take_move (i := 2) (v := .slice (some ⟨g3, 0, none⟩) (i + 1) cap3) rfl (by kernel_rfl) (by kernel_rfl) (by kernel_rfl) (fun _ _ _ _ h => h) rfl (by simp only [List.setIfInBounds_toArray, List.set_cons_succ, List.set_cons_zero]; rfl) ?_
            refine take_move (i := 3) (v := .int .i64 ((k : Int) + 1)) rfl (by kernel_rfl) (by kernel_rfl) (by kernel_rfl) (fun _ _ _ _ h => h) rfl (by simp only [List.setIfInBounds_toArray, List.set_cons_succ, List.set_cons_zero]; rfl) ?_
            refine take_op (i := 4) (.int .i64 (k : Int)) rfl (by kernel_rfl) (by kernel_rfl) (by kernel_rfl) (fun _ _ _ _ h => h) (Or.inl ⟨by rfl, by intro w; go_simp⟩) (by simp only [List.setIfInBounds_toArray, List.set_cons_succ, List.set_cons_zero]; rfl) ?_
            refine any_tail_from (C := fun w' => ∃ e : Later w3, w' = e.w) 5 14 (by kernel_rfl) rfl later_drew ?_
            simp only [List.take_succ_cons, List.take_zero, List.drop_succ_cons, List.drop_zero]
            repeat (go_big_quiet_step (fail))
            refine wpQuiet_nil ?_
            rintro w4 ⟨⟨_, hw4⟩, rfl⟩
            have S4 := Lib.hid (S3.out.ext' hw4)
            clear L0 L3 hw4
            have FR := S4.out.own.frozenAt
            have e0 := ownJ_cell S4.out.own (ins_at A x S4.out.le)
            have f0 := ownJ_cell S4.out.own ((ins_before A x S4.out.le).trans HY.out)
            have S5 := Lib.hid (S4.out.swap HY.out HXY.out)
            clear S4
            go_wp2_with fail
            go_roundg k
            case measure => omega
            case rel => exact ⟨k, rfl, by omega, rfl, S5.out⟩
          · rw [Bool.not_eq_true] at hxy
            have HXY := Lib.hid hxy
            have hd : decide (x < y) = false := hxy
            clear hxy
            go_wp2_with fail
            refine region_ext (by kernel_rfl) (by kernel_rfl) (fun hc => ?_)
            repeat (go_big_quiet_step (fail))
            refine wpQuiet_nil ?_
            rintro w3 ⟨⟨_, hw3⟩, rfl⟩
            have S3 := Lib.hid (HS.out.ext' hw3)
            clear L0 L3 hc hw3 g0' g1' hd
            go_wp2
            go_roundg (gR - 1)
            case measure => omega
            case rel =>
              refine ⟨i + 1, g3, cap3, ins A x (k + 1), by omega, by go_num, rfl, S3.out.own, ?_, S3.out.done (.inr ⟨y, HY.out, HXY.out⟩), S3.out.ext⟩
              rw [List.take_add_one, HXU.out, List.map_append]
              refine (ins_perm A x (k + 1)).trans ((HP.out.cons x).trans ?_)
              rw [← HDX.out]; exact (List.perm_append_singleton _ _).symm
    · have hi2 : i = us.length := by omega
      subst hi2
      rw [List.take_length] at hperm
      have FIN := Lib.hid (show DistSays us p w (.returned (.slice (some ⟨g, 0, none⟩) us.length cap)) wo from ⟨g, cap, A, rfl, own_mono hown X1.out.size, hperm, hord, X1.out.trans hx⟩)
      clear hown hperm hord hx
      go_wp2
      exact bodyPost_ret (v := .slice (some ⟨g, 0, none⟩) us.length cap) (by simp [results, Tryd.results17, go_sem]) rfl FIN.out

end Go.Proofs.YtmmmknmncdlopaaDoor
