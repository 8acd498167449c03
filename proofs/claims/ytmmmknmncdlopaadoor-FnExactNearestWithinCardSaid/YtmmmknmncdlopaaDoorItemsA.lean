/- Slices of items that a call makes itself; impl.items. Conditions: the sizes. -/
import Derived.Test.YtmmmknmncdlopaaDoorGrowB
import Derived.Test.YtmmmknmncdlopaaDoorQuadQ
namespace Go.Proofs.YtmmmknmncdlopaaDoor
open Go.ChangeShapes Go.WideShapes Go.ChangeAt Go.RowKit
open Go.Proofs.YtmmmknmncdlopaaDoor.F

/-- Items as cells, one behind the other. -/
def cells3 : List T3 → List Value
  | [] => []
  | t :: ts => .int .i64 t.1 :: .int .i64 t.2.1 :: .int .i64 t.2.2 :: cells3 ts
theorem cells3_append (a b : List T3) : cells3 (a ++ b) = cells3 a ++ cells3 b := by
  induction a with
  | nil => rfl
  | cons t ts ih => simp [cells3, ih]
theorem cells3_length (a : List T3) : (cells3 a).length = a.length * 3 := by
  induction a with
  | nil => rfl
  | cons t ts ih => simp [cells3, ih]; omega
theorem cells3_get : ∀ (ts : List T3) (i : Nat) (t : T3), ts[i]? = some t → (cells3 ts)[i * 3]? = some (.int .i64 t.1) ∧ (cells3 ts)[i * 3 + 1]? = some (.int .i64 t.2.1) ∧ (cells3 ts)[i * 3 + 2]? = some (.int .i64 t.2.2)
  | [], i, t, h => by simp at h
  | u :: us, 0, t, h => by simp at h; subst h; simp [cells3]
  | u :: us, i + 1, t, h => by
    have := cells3_get us i t (by simpa using h)
    rw [show (i + 1) * 3 = i * 3 + 3 by omega]
    exact ⟨this.1, this.2.1, this.2.2⟩
theorem cells3_one (ts : List T3) : ∀ u ∈ cells3 ts, u.oneCell' = true := by
  induction ts with
  | nil => simp [cells3]
  | cons t ts ih =>
    intro u hu
    simp only [cells3, List.mem_cons] at hu
    rcases hu with rfl | rfl | rfl | hu
    · rfl
    · rfl
    · rfl
    · exact ih u hu

/-- A slice of items of a call's own. -/
abbrev OwnI (w : World) (base g cap : Nat) (ts : List T3) : Prop := w.ownsRow base 25 3 (.slice (some ⟨g, 0, none⟩) ts.length cap) ts.length (cells3 ts)
theorem ownI_cells {w : World} {base g cap : Nat} {ts : List T3} (h : OwnI w base g cap ts) {i : Nat} {t : T3} (ht : ts[i]? = some t) :
    w.cell? ⟨g, i * 3, none⟩ = some (.int .i64 t.1) ∧ w.cell? ⟨g, i * 3 + 1, none⟩ = some (.int .i64 t.2.1) ∧ w.cell? ⟨g, i * 3 + 2, none⟩ = some (.int .i64 t.2.2) := by
  have hi : i < ts.length := (List.getElem?_eq_some_iff.1 ht).1
  obtain ⟨c0, c1, c2⟩ := cells3_get ts i t ht
  exact ⟨by rw [h.cellAt (i * 3) (by omega)]; exact c0, by rw [h.cellAt (i * 3 + 1) (by omega)]; exact c1, by rw [h.cellAt (i * 3 + 2) (by omega)]; exact c2⟩
theorem ownI_cap {w : World} {base g cap : Nat} {ts : List T3} (h : OwnI w base g cap ts) : ts.length ≤ cap ∧ cap ≤ maxLen := by
  rcases h.2 with ⟨h0, _⟩ | ⟨g', cap', cur, hv, _, _, h1, h2, _⟩
  · cases h0
  · cases hv; exact ⟨h1, h2⟩
theorem ownI_nil (w : World) : OwnI (w.alloc (.cells #[] 25)) w.heap.size w.heap.size 0 [] :=
  ⟨rfl, .inr ⟨w.heap.size, 0, #[], rfl, Nat.le_refl _, blk_new w _, Nat.le_refl _, by simp [maxLen], rfl, rfl⟩⟩

theorem infoI : (Tryd.prog.info? 25).map (fun i => (i.zero, i.size, i.bytes)) = some (some (.agg #[.int .i64 0, .int .i64 0, .int .i64 0]), 3, 24) := by kernel_rfl
/-- The list of items that a call hands back. -/
def ItemSays (us : List T3) (w : World) (e : Ending) (w' : World) : Prop :=
  ∃ g cap, e = .returned (.slice (some ⟨g, 0, none⟩) us.length cap) ∧ OwnI w' w.heap.size g cap us ∧ Ext w w'

theorem ownP_cell {w : World} {base g cap : Nat} {us : List T3} (h : w.ownsRow base 77 1 (.slice (some ⟨g, 0, none⟩) us.length cap) us.length (ivs us)) {i : Nat} {t : T3} (ht : us[i]? = some t) : w.cell? ⟨g, i, none⟩ = some (iv (some t)) := by
  have hi : i < us.length := (List.getElem?_eq_some_iff.1 ht).1
  rw [h.cellAt i (by omega)]
  unfold ivs; rw [List.getElem?_map, ht]; rfl

/-- 'append(out, x)' of one item that lies in a block of its own: behind it. -/
theorem ownI_push {w w' : World} {base g cap g3 cap3 : Nat} {ts : List T3} {t : T3} (h : w'.ownsRow base 25 3 (.slice (some ⟨g3, 0, none⟩) (ts.length + 1) cap3) (ts.length + 1) (cells3 ts ++ [.int .i64 t.1, .int .i64 t.2.1, .int .i64 t.2.2])) : OwnI w' base g3 cap3 (ts ++ [t]) := by
  unfold OwnI
  rw [List.length_append, cells3_append]
  exact h

set_option maxRecDepth 8000 in
set_option maxHeartbeats 3200000 in
theorem items_any (sv : Value) (us : List T3) (base : Nat) (w : World) (h : w.ownsRow base 77 1 sv us.length (ivs us)) (hlen : us.length ≤ 1048576) :
    Calls Tryd.prog 29 #[sv] w (ItemSays us w) := by
  obtain ⟨i0, hi0, hz0, hz1, hz2⟩ := info_parts infoI
  have INF := Lib.hid (show Tryd.prog.info? 25 = some i0 ∧ i0.zero = some (.agg #[.int .i64 0, .int .i64 0, .int .i64 0]) ∧ i0.size = 3 ∧ i0.bytes = 24 from ⟨hi0, hz0, hz1, hz2⟩)
  clear hi0 hz0 hz1 hz2
  have N0 := Lib.hid (ownI_nil w)
  rcases h.2 with ⟨rfl, hn⟩ | ⟨g, cap, cur, rfl, _, _, hc1, hc2, _⟩
  · have hu : us = [] := List.eq_nil_of_length_eq_zero hn
    subst hu
    clear h
    go_enter Tryd.func29, Tryd.ntmps29
    go_wp2
    go_loopg [3, 9] 0 (fun r out iv wr => out = .slice (some ⟨w.heap.size, 0, none⟩) 0 0 ∧ iv = .int .i64 0 ∧ wr = w.alloc (.cells #[] 25))
    case atStart => exact ⟨rfl, rfl, rfl⟩
    case round =>
      obtain ⟨rfl, rfl, rfl⟩ := hrel
      go_wp2
      go_ret
      exact ⟨_, _, rfl, N0.out, (Ext.refl _).alloc _⟩
  · unfold maxLen at hc2
    have HO := Lib.hid h
    have hg : g < w.heap.size := (own_lt h).2
    clear h
    go_enter Tryd.func29, Tryd.ntmps29
    go_wp2
    go_loopg [3, 9] us.length (fun r out iv wr => ∃ (j g2 cap2 : Nat), r + j = us.length ∧ iv = .int .i64 j ∧ out = .slice (some ⟨g2, 0, none⟩) j cap2 ∧ OwnI wr w.heap.size g2 cap2 (us.take j) ∧ Ext w wr)
    case atStart => exact ⟨0, w.heap.size, 0, by omega, rfl, rfl, N0.out, (Ext.refl _).alloc _⟩
    case round =>
      obtain ⟨j, g2, cap2, hj, rfl, rfl, hown, hwr⟩ := hrel
      by_cases hlt : j < us.length
      · obtain ⟨t, ht⟩ : ∃ t, us[j]? = some t := ⟨_, List.getElem?_eq_getElem hlt⟩
        have d0 : wr.cell? ⟨g, j, none⟩ = some (.iface 25 (.agg #[.int .i64 t.1, .int .i64 t.2.1, .int .i64 t.2.2])) := hwr.cell (ownP_cell HO.out ht)
        have ai := as_item (.agg #[.int .i64 t.1, .int .i64 t.2.1, .int .i64 t.2.2])
        have HT := Lib.hid ht; have HW := Lib.hid hwr
        have hlj : (us.take j).length = j := by rw [List.length_take]; omega
        have HO2 := Lib.hid (show wr.ownsRow w.heap.size 25 3 (.slice (some ⟨g2, 0, none⟩) j cap2) j (cells3 (us.take j)) from by have := hown; unfold OwnI at this; rwa [hlj] at this)
        have HLJ := Lib.hid hlj
        clear ht hown hlj hwr
        go_wp2_with (at_builtin; refine wpList_append_lies _ rfl (.tmp 13) (.tmp 16) 33 rfl w.heap.size 25 i0 (.agg #[.int .i64 0, .int .i64 0, .int .i64 0]) 3 24 Tryd.underlying33 INF.out.1 INF.out.2.1 INF.out.2.2.1 INF.out.2.2.2 rfl (by decide) _ j (cells3 (us.take j)) rfl (kept_ext ((Ext.refl wr).alloc _) HO2.out) ⟨wr.heap.size, 0, none⟩ 1 1 [.int .i64 t.1, .int .i64 t.2.1, .int .i64 t.2.2] rfl rfl (World.news_of_block (cs := #[.int .i64 t.1, .int .i64 t.2.1, .int .i64 t.2.2]) (t := 25) (fr := (0, 0)) (heap_alloc_new wr _)) (by simp [Value.oneCell']) (by omega) (by simp only [maxLen]; omega) (by omega) (by have := HW.out.size; rw [World.size_alloc]; omega) (wr.heap.size + 1) (by simp) ?_)
        intro g3 cap3 w6 hown hgrow hat hlt6
        have G2 := Lib.hid (show OwnI w6 w.heap.size g3 cap3 (us.take (j + 1)) ∧ Ext w w6 from by
          refine ⟨?_, Below.grown (HW.out.alloc _) hgrow (by have := HW.out.size; rw [World.size_alloc]; omega) (fun k hk => (HO2.out.lt k hk).1)⟩
          rw [List.take_add_one, HT.out]
          refine ownI_push (w := w6) (g := 0) (cap := 0) ?_
          rw [HLJ.out]; exact hown)
        have hlj2 : (us.take (j + 1)).length = j + 1 := by rw [List.length_take]; omega
        clear hown hgrow hat hlt6
        go_wp2
        go_roundg (gk - 1)
        case measure => omega
        case rel => exact ⟨j + 1, g3, cap3, by omega, by go_num, rfl, G2.out.1, G2.out.2⟩
      · have hjl : j = us.length := by omega
        subst hjl
        rw [List.take_length] at hown
        have FIN := Lib.hid (show ItemSays us w (.returned (.slice (some ⟨g2, 0, none⟩) us.length cap2)) wr from ⟨g2, cap2, rfl, hown, hwr⟩)
        clear hown
        go_wp2
        go_ret
        exact FIN.out

end Go.Proofs.YtmmmknmncdlopaaDoor
