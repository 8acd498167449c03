/- spec.Steps: the steps that numbers tell. Conditions: the numbers' kind; no more than 2147483647 of them. -/
import Derived.Test.YtmmmknmncdlopaaDoorSpecB
import Derived.Test.YtmmmknmncdlopaaDoorRegionG
namespace Go.Proofs.YtmmmknmncdlopaaDoor
open Go.ChangeShapes Go.WideShapes Go.ChangeAt Go.RowKit
open Go.Proofs.YtmmmknmncdlopaaDoor.F

/-- The slice value reads as a list of short numbers. -/
def Shorts (w : World) (v : Value) (zs : List Int) : Prop :=
  ∃ (a : Option Addr) (cap : Nat), v = .slice a zs.length cap ∧ zs.length ≤ cap ∧ cap ≤ maxLen ∧
    (zs ≠ [] → ∃ b off, a = some ⟨b, off, none⟩ ∧ ∀ i x, zs[i]? = some x → w.cell? ⟨b, off + i, none⟩ = some (.int .i16 x) ∧ -32768 ≤ x ∧ x ≤ 32767)

/-- The i-th step, and the first n. -/
def stp (zs : List Int) (i : Nat) : S4 := ((zs.getD (4 * i) 0).tmod 3 == 0, (zs.getD (4 * i + 1) 0, zs.getD (4 * i + 2) 0, zs.getD (4 * i + 3) 0))
def stps (zs : List Int) : Nat → List S4
  | 0 => []
  | n + 1 => stps zs n ++ [stp zs n]
/-- All steps. -/
def steps (zs : List Int) : List S4 := stps zs (min (zs.length / 4) 400)
theorem stps_len (zs : List Int) : ∀ n, (stps zs n).length = n
  | 0 => rfl
  | n + 1 => by rw [stps, List.length_append, stps_len zs n]; rfl
theorem steps_len (zs : List Int) : (steps zs).length ≤ 400 := by unfold steps; rw [stps_len]; omega
theorem stps_sm {zs : List Int} (h : ∀ x ∈ zs, -32768 ≤ x ∧ x ≤ 32767) : ∀ n, ∀ s ∈ stps zs n, Sm s.2
  | 0 => by simp [stps]
  | n + 1 => by
    have g : ∀ i, -32768 ≤ zs.getD i 0 ∧ zs.getD i 0 ≤ 32767 := fun i => by
      rw [List.getD]
      cases e : zs[i]? with
      | none => simp
      | some x => exact h x (List.mem_of_getElem? e)
    intro s hs
    rw [stps, List.mem_append] at hs
    rcases hs with hs | hs
    · exact stps_sm h n s hs
    · rw [List.mem_singleton.1 hs]
      have h1 := g (4 * n + 1); have h2 := g (4 * n + 2)
      constructor
      · show (zs.getD (4 * n + 1) 0).natAbs ≤ 32768; omega
      · show (zs.getD (4 * n + 2) 0).natAbs ≤ 32768; omega

/-- Steps as cells, one behind the other. -/
def cells4 : List S4 → List Value
  | [] => []
  | s :: ss => .bool s.1 :: .int .i64 s.2.1 :: .int .i64 s.2.2.1 :: .int .i64 s.2.2.2 :: cells4 ss
theorem cells4_append (a b : List S4) : cells4 (a ++ b) = cells4 a ++ cells4 b := by
  induction a with
  | nil => rfl
  | cons t ts ih => simp [cells4, ih]
theorem cells4_length (a : List S4) : (cells4 a).length = a.length * 4 := by
  induction a with
  | nil => rfl
  | cons t ts ih => simp [cells4, ih]; omega
theorem cells4_get : ∀ (ts : List S4) (i : Nat) (t : S4), ts[i]? = some t → (cells4 ts)[i * 4]? = some (.bool t.1) ∧ (cells4 ts)[i * 4 + 1]? = some (.int .i64 t.2.1) ∧ (cells4 ts)[i * 4 + 2]? = some (.int .i64 t.2.2.1) ∧ (cells4 ts)[i * 4 + 3]? = some (.int .i64 t.2.2.2)
  | [], i, t, h => by simp at h
  | u :: us, 0, t, h => by simp at h; subst h; simp [cells4]
  | u :: us, i + 1, t, h => by
    have := cells4_get us i t (by simpa using h)
    rw [show (i + 1) * 4 = i * 4 + 4 by omega]
    exact ⟨this.1, this.2.1, this.2.2.1, this.2.2.2⟩
/-- A slice of steps of a call's own. -/
abbrev OwnS (w : World) (base g cap : Nat) (ss : List S4) : Prop := w.ownsRow base 31 4 (.slice (some ⟨g, 0, none⟩) ss.length cap) ss.length (cells4 ss)
theorem ownS_at {w : World} {base g cap : Nat} {ss : List S4} (h : OwnS w base g cap ss) : StepsAt w g ss := by
  rcases h.2 with ⟨h0, _⟩ | ⟨g', cap', cur, hv, _, hb, _, _, _, ht⟩
  · cases h0
  · cases hv
    have e : ∀ j u, (cells4 ss)[j]? = some u → cur[j]? = some u := fun j u hu => by
      rw [← ht, List.getElem?_take] at hu
      split at hu
      · simpa using hu
      · cases hu
    refine ⟨cur, hb, fun i s hs => ?_⟩
    obtain ⟨c0, c1, c2, c3⟩ := cells4_get ss i s hs
    exact ⟨e _ _ c0, e _ _ c1, e _ _ c2, e _ _ c3⟩
theorem ownS_nil (w : World) : OwnS (w.alloc (.cells #[] 31)) w.heap.size w.heap.size 0 [] :=
  ⟨rfl, .inr ⟨w.heap.size, 0, #[], rfl, Nat.le_refl _, blk_new w _, Nat.le_refl _, by simp [maxLen], rfl, rfl⟩⟩
theorem infoS : (Tryd.prog.info? 31).map (fun i => (i.zero, i.size, i.bytes)) = some (some (.agg #[.bool false, .int .i64 0, .int .i64 0, .int .i64 0]), 4, 32) := by kernel_rfl

/-- The slice of steps that a call hands back. -/
def StepSays (ss : List S4) (w : World) (e : Ending) (w' : World) : Prop :=
  ∃ g cap, e = .returned (.slice (some ⟨g, 0, none⟩) ss.length cap) ∧ OwnS w' w.heap.size g cap ss ∧ Ext w w'

set_option maxRecDepth 8000 in
set_option maxHeartbeats 3200000 in
theorem steps_some (b off cap : Nat) (zs : List Int) (w : World) (h1 : zs.length ≤ cap) (h2 : cap ≤ maxLen) (h3 : zs.length ≤ 2147483647)
    (hc : ∀ i x, zs[i]? = some x → w.cell? ⟨b, off + i, none⟩ = some (.int .i16 x) ∧ -32768 ≤ x ∧ x ≤ 32767) :
    Calls Tryd.prog 12 #[.slice (some ⟨b, off, none⟩) zs.length cap] w (StepSays (steps zs) w) := by
  unfold maxLen at h2
  have HC := Lib.hid hc; clear hc
  obtain ⟨i0, hi0, hz0, hz1, hz2⟩ := info_parts infoS
  have INF := Lib.hid (show Tryd.prog.info? 31 = some i0 ∧ i0.zero = some (.agg #[.bool false, .int .i64 0, .int .i64 0, .int .i64 0]) ∧ i0.size = 4 ∧ i0.bytes = 32 from ⟨hi0, hz0, hz1, hz2⟩)
  clear hi0 hz0 hz1 hz2
  have N0 := Lib.hid (ownS_nil w)
  go_enter Tryd.func12, Tryd.ntmps12
  go_wp2
  go_loopg [3, 4] 400 (fun r out iv wr => ∃ (i j g c : Nat), r = 400 - j ∧ i = 4 * j ∧ j ≤ 400 ∧ 4 * j ≤ zs.length ∧ iv = .int .i64 (i : Nat) ∧ out = .slice (some ⟨g, 0, none⟩) j c ∧ wr.ownsRow w.heap.size 31 4 (.slice (some ⟨g, 0, none⟩) j c) j (cells4 (stps zs j)) ∧ Ext w wr)
  case atStart => exact ⟨0, 0, w.heap.size, 0, rfl, rfl, by omega, by omega, rfl, rfl, N0.out, (Ext.refl _).alloc _⟩
  case round =>
    obtain ⟨i, j, g, c, rfl, hij, hj, hjz, rfl, rfl, hown, hwr⟩ := hrel
    have HO := Lib.hid hown; have HIJ := Lib.hid hij
    have hi4 : i ≤ 2147483647 := by omega
    clear hown hij
    by_cases hlt : i + 4 ≤ zs.length ∧ j < 400
    · obtain ⟨hl1, hl2⟩ := hlt
      obtain ⟨x0, hx0⟩ : ∃ x, zs[i]? = some x := ⟨_, List.getElem?_eq_getElem (by omega)⟩
      obtain ⟨x1, hx1⟩ : ∃ x, zs[i + 1]? = some x := ⟨_, List.getElem?_eq_getElem (by omega)⟩
      obtain ⟨x2, hx2⟩ : ∃ x, zs[i + 2]? = some x := ⟨_, List.getElem?_eq_getElem (by omega)⟩
      obtain ⟨x3, hx3⟩ : ∃ x, zs[i + 3]? = some x := ⟨_, List.getElem?_eq_getElem (by omega)⟩
      obtain ⟨c0, l0, u0⟩ := HC.out _ _ hx0
      obtain ⟨c1, l1, u1⟩ := HC.out _ _ hx1
      obtain ⟨c2, l2, u2⟩ := HC.out _ _ hx2
      obtain ⟨c3, l3, u3⟩ := HC.out _ _ hx3
      have HST := Lib.hid (show stp zs j = (x0.tmod 3 == 0, (x1, x2, x3)) from by
        have := HIJ.out
        unfold stp
        rw [← this]
        simp only [List.getD, hx0, hx1, hx2, hx3, Option.getD_some])
      replace c0 := hwr.cell c0; replace c1 := hwr.cell c1; replace c2 := hwr.cell c2; replace c3 := hwr.cell c3
      clear hx0 hx1 hx2 hx3
      have L0 := fun e : Later wr => e.h.cell c0
      have L1 := fun e : Later wr => e.h.cell c1
      have L2 := fun e : Later wr => e.h.cell c2
      have L3 := fun e : Later wr => e.h.cell c3
      have t0 : -3 < x0.tmod 3 ∧ x0.tmod 3 < 3 := ⟨Int.lt_tmod_of_pos x0 (by decide), Int.tmod_lt_of_pos x0 (by decide)⟩
      have hl0 : i < zs.length := by omega
      have d1 : decide ((i : Int) + 4 ≤ zs.length) = true := by simp; omega
      have d2 : decide (i + 4 ≤ zs.length) = true := by simp; omega
      have d3 : decide ((j : Int) < 400) = true := by simp; omega
      have d4 : decide (j < 400) = true := by simp; omega
      have hw0 : IntKind.i16.wrap (x0.tmod 3) = x0.tmod 3 := IntWalk.i16_in _ (by omega)
      go_wp2_with fail
      refine wp_region_any (by kernel_rfl) ?_
      refine take_move (i := 0) rfl (by kernel_rfl) (by kernel_rfl) (by kernel_rfl) (fun _ _ _ _ h => h) rfl (by simp only [List.setIfInBounds_toArray, List.set_cons_succ, List.set_cons_zero]; rfl) ?_
      refine any_tail_from (C := fun w' => ∃ e : Later wr, w' = e.w) 1 27 (by kernel_rfl) rfl later_drew ?_
      simp only [List.take_succ_cons, List.take_zero, List.drop_succ_cons, List.drop_zero]
      repeat (go_big_quiet_step (fail))
      refine wpQuiet_nil ?_
      rintro w3 ⟨⟨_, hw3⟩, rfl⟩
      have X3 := Lib.hid hw3
      have CB := Lib.hid (blk_new w3 (.cells #[.bool (x0.tmod 3 == 0), .int .i64 x1, .int .i64 x2, .int .i64 x3] 31))
      have HO3 := Lib.hid (kept_ext (hw3.alloc (.cells #[.bool (x0.tmod 3 == 0), .int .i64 x1, .int .i64 x2, .int .i64 x3] 31)) HO.out)
      have hs3 : w.heap.size ≤ w3.heap.size := Nat.le_trans hwr.size hw3.size
      have HS3 := Lib.hid hs3
      clear L0 L1 L2 L3 hw3 hs3
      go_wp2_with (at_builtin; refine wpList_append_lies _ rfl (.tmp 18) (.tmp 45) 28 rfl w.heap.size 31 i0 (.agg #[.bool false, .int .i64 0, .int .i64 0, .int .i64 0]) 4 32 Tryd.underlying28 INF.out.1 INF.out.2.1 INF.out.2.2.1 INF.out.2.2.2 rfl (by decide) _ j (cells4 (stps zs j)) rfl HO3.out ⟨w3.heap.size, 0, none⟩ 1 1 [.bool (x0.tmod 3 == 0), .int .i64 x1, .int .i64 x2, .int .i64 x3] rfl rfl (World.news_of_block (cs := #[.bool (x0.tmod 3 == 0), .int .i64 x1, .int .i64 x2, .int .i64 x3]) (t := 31) (fr := (0, 0)) (heap_alloc_new w3 _)) (by simp [Value.oneCell']) (by omega) (by simp only [maxLen]; omega) (by omega) (by have := HS3.out; rw [World.size_alloc]; omega) (w3.heap.size + 1) (by simp) ?_)
      intro g3 cap3 w6 hown hgrow hat hlt6
      have G2 := Lib.hid (show w6.ownsRow w.heap.size 31 4 (.slice (some ⟨g3, 0, none⟩) (j + 1) cap3) (j + 1) (cells4 (stps zs (j + 1))) ∧ Ext w w6 from by
        refine ⟨?_, Below.grown ((hwr.trans X3.out).alloc _) hgrow (by have := HS3.out; rw [World.size_alloc]; omega) (fun k hk => (HO3.out.lt k hk).1)⟩
        rw [stps, cells4_append, HST.out]; exact hown)
      clear hown hgrow hat hlt6
      go_wp2
      go_roundg (400 - (j + 1))
      case measure => omega
      case rel => exact ⟨i + 4, j + 1, g3, cap3, rfl, by have := HIJ.out; omega, by omega, by have := HIJ.out; omega, by go_num, rfl, G2.out.1, G2.out.2⟩
    · have FIN := Lib.hid (show StepSays (steps zs) w (.returned (.slice (some ⟨g, 0, none⟩) j c)) wr from by
        have hj2 : min (zs.length / 4) 400 = j := by have := HIJ.out; omega
        have hl : (stps zs j).length = j := stps_len zs j
        refine ⟨g, c, ?_, ?_, hwr⟩
        · unfold steps; rw [hj2, hl]
        · unfold OwnS steps; rw [hj2, hl]; exact HO.out)
      rcases Nat.lt_or_ge zs.length (i + 4) with h4 | h4
      · have d1 : decide ((i : Int) + 4 ≤ zs.length) = false := by simp; omega
        have d2 : decide (i + 4 ≤ zs.length) = false := by simp; omega
        go_wp2
        exact bodyPost_ret (v := .slice (some ⟨g, 0, none⟩) j c) (by simp [results, Tryd.results12, go_sem]) rfl FIN.out
      · have h5 : 400 ≤ j := by omega
        have d1 : decide ((i : Int) + 4 ≤ zs.length) = true := by simp; omega
        have d2 : decide (i + 4 ≤ zs.length) = true := by simp; omega
        have d3 : decide ((j : Int) < 400) = false := by simp; omega
        have d4 : decide (j < 400) = false := by simp; omega
        go_wp2
        exact bodyPost_ret (v := .slice (some ⟨g, 0, none⟩) j c) (by simp [results, Tryd.results12, go_sem]) rfl FIN.out

set_option maxHeartbeats 800000 in
theorem steps_any (v : Value) (zs : List Int) (w : World) (h : Shorts w v zs) (hl : zs.length ≤ 2147483647) : Calls Tryd.prog 12 #[v] w (StepSays (steps zs) w) := by
  obtain ⟨a, cap, rfl, h1, h2, hc⟩ := h
  by_cases h0 : zs = []
  · subst h0
    clear hc h1 h2 hl
    have FIN := Lib.hid (show StepSays (steps []) w (.returned (.slice (some ⟨w.heap.size, 0, none⟩) 0 0)) (w.alloc (.cells #[] 31)) from ⟨w.heap.size, 0, rfl, ownS_nil w, (Ext.refl _).alloc _⟩)
    simp only [List.length_nil]
    go_enter Tryd.func12, Tryd.ntmps12
    go_wp2
    go_loopg [3, 4] 0 (fun r out iv wr => out = .slice (some ⟨w.heap.size, 0, none⟩) 0 0 ∧ iv = .int .i64 0 ∧ wr = w.alloc (.cells #[] 31))
    case atStart => exact ⟨rfl, rfl, rfl⟩
    case round =>
      obtain ⟨rfl, rfl, rfl⟩ := hrel
      go_wp2
      exact bodyPost_ret (v := .slice (some ⟨w.heap.size, 0, none⟩) 0 0) (by simp [results, Tryd.results12, go_sem]) rfl FIN.out
  · obtain ⟨b, off, rfl, hc2⟩ := hc h0
    exact steps_some b off cap zs w h1 h2 hl hc2
theorem Shorts.sm {w : World} {v : Value} {zs : List Int} (h : Shorts w v zs) : ∀ x ∈ zs, -32768 ≤ x ∧ x ≤ 32767 := by
  obtain ⟨a, cap, rfl, h1, h2, hc⟩ := h
  intro x hx
  obtain ⟨b, off, rfl, hc2⟩ := hc (List.ne_nil_of_mem hx)
  obtain ⟨i, hi⟩ := List.mem_iff_getElem?.1 hx
  exact (hc2 i x hi).2
theorem steps_sm {w : World} {v : Value} {zs : List Int} (h : Shorts w v zs) : ∀ s ∈ steps zs, Sm s.2 := stps_sm h.sm _

end Go.Proofs.YtmmmknmncdlopaaDoor
