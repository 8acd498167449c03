/- The set of a list of tiles; the list's merging, but for the order that is made at the end. Conditions: one zoom, at most 31 columns and rows. -/
import Derived.Test.YtdkknlnlfaoapaaMergeNone
import Derived.Test.YtdkknlnlfaoapaaMergeUp
import Derived.Test.YtdkknlnlfaoapaaMergePart
import Derived.Test.YtdkknlnlfaoapaaLists
namespace Go.Proofs.Ytdkknlnlfaoapaa
open Go.ChangeShapes Go.WideShapes Go.ChangeAt Go.RowKit

theorem put_all (l : List T3) (t : T3) (h : t ∉ l) : putB (l.map fun u => (u, true)) t true = (l ++ [t]).map fun u => (u, true) := by
  unfold putB
  cases hs : seek t (l.map fun u => (u, true)) 0 with
  | none => simp only [List.map_append, List.map_cons, List.map_nil]
  | some p =>
    obtain ⟨j, c⟩ := p
    have hj := List.mem_of_getElem? (seek_some t _ j c hs)
    obtain ⟨u, hu, he⟩ := List.mem_map.1 hj
    have h1 : u = t := congrArg Prod.fst he
    subst h1
    exact absurd hu h
theorem keys_all (l : List T3) : (l.map fun u => (u, true)).map (·.1) = l := by
  rw [List.map_map]; exact (List.map_congr_left fun _ _ => rfl).trans (List.map_id l)
theorem get_all (l : List T3) (nd : l.Nodup) (t : T3) : getB (l.map fun u => (u, true)) t = decide (t ∈ l) := by
  have := getB_all (q := l.map fun u => (u, true)) (by simp) (by rw [keys_all]; exact nd) t
  rw [keys_all] at this
  exact this
theorem nth_not (ts : List T3) (nd : ts.Nodup) (j : Nat) (t : T3) (ht : ts[j]? = some t) : t ∉ ts.take j := fun hm => by
  obtain ⟨i, hi, h⟩ := List.mem_iff_getElem.1 hm
  rw [List.length_take] at hi
  rw [List.getElem_take] at h
  obtain ⟨hlt, h1⟩ := List.getElem?_eq_some_iff.1 ht
  exact List.pairwise_iff_getElem.1 nd i j (by omega) (by omega) (by omega) (h.trans h1.symm)

set_option maxRecDepth 8000 in
set_option maxHeartbeats 3200000 in
theorem tiles_any (b off cap n : Nat) (ts : List T3) (w : World) (h : Reads w (.slice (some ⟨b, off, none⟩) ts.length cap) ts) (nd : ts.Nodup) (hn : n ≤ 5) (hlev : ∀ t ∈ ts, lev n t) :
    Calls Try.prog 16 #[.slice (some ⟨b, off, none⟩) ts.length cap] w fun e w' => e = .returned (.map (some w.heap.size)) ∧ SetAt .u32 w' w.heap.size (ts.map fun u => (u, true)) ∧ Ext w w' := by
  obtain ⟨-, p1, p2, hc⟩ := h.some
  unfold maxLen at p2
  have HC := Lib.hid hc; clear hc h
  have HL := Lib.hid hlev; clear hlev
  have ND := Lib.hid nd; clear nd
  have hmk := @run_makeMap Try.prog
  go_enter Try.func16, Try.ntmps16
  go_wp2
  have S0 := Lib.hid (blk_new w (.map #[] 0))
  go_loopg [9] ts.length (fun r i wr => ∃ j : Nat, r + j = ts.length ∧ i = .int .i64 j ∧ SetAt .u32 wr w.heap.size ((ts.take j).map fun u => (u, true)) ∧ Ext w wr)
  case atStart => exact ⟨0, by omega, rfl, S0.out, (Ext.refl _).alloc _⟩
  case round =>
    obtain ⟨j, hj, rfl, hset, hx⟩ := hrel
    have HSET := Lib.hid hset; clear hset
    by_cases hlt : j < ts.length
    · have hl : decide ((j : Int) < ts.length) = true := by simp; omega
      obtain ⟨⟨x, y, z⟩, ht⟩ : ∃ t, ts[j]? = some t := ⟨ts[j], List.getElem?_eq_getElem hlt⟩
      obtain ⟨C1, C2, C3⟩ := HC.out j (x, y, z) ht
      replace C1 := hx.cell C1; replace C2 := hx.cell C2; replace C3 := hx.cell C3
      dsimp only at C1 C2 C3
      obtain ⟨hz, q1, q2, q3, q4⟩ := HL.out (x, y, z) (List.mem_of_getElem? ht)
      dsimp only at hz q1 q2 q3 q4
      subst hz
      have HT := Lib.hid (fun W => tile_any x y n W (by omega) (by omega) (by omega) (by omega) (by omega) (by omega))
      have HTJ := Lib.hid ht; clear ht
      have HJ := Lib.hid hj; clear hj
      go_wp2_with (first
        | (go_at_call 17; refine (HT.out _).mono ?_; rintro e w1 ⟨rfl, hw1⟩)
        | (at_mapUpdate; refine wpList_update rfl _ _ _ rfl w.heap.size _ (Ext.blk hw1 (blk_old HSET.out _)) rfl _ _ _ rfl _ rfl ?_)
        | fail)
      go_roundg (gk - 1)
      case measure => have := HJ.out; omega
      case rel =>
        have hnot := nth_not ts ND.out j _ HTJ.out
        have e1 : (ts.take (j + 1)).map (fun u => (u, true)) = putB ((ts.take j).map fun u => (u, true)) (x, y, (n : Int)) true := by
          rw [put_all _ _ hnot, List.take_add_one, HTJ.out, Option.toList_some]
        refine ⟨j + 1, by have := HJ.out; omega, by go_num, ?_, ((hx.alloc _).trans hw1).putSet (Nat.le_refl _) _ _⟩
        rw [e1, List.map_take]
        have := HSET.out
        rw [List.map_take] at this
        exact setAt_put (Ext.blk hw1 (blk_old this _)) _
    · obtain rfl : j = ts.length := by omega
      have hl : decide ((ts.length : Int) < ts.length) = false := by simp
      go_wp2
      go_ret
      exact ⟨rfl, by simpa using HSET.out, hx⟩

end Go.Proofs.Ytdkknlnlfaoapaa
