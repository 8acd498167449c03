/- The tiles of a set, in some order: impl.set. No condition but the bounds. -/
import Derived.Test.YtdkknlnlfaoapaaOrderA
namespace Go.Proofs.Ytdkknlnlfaoapaa
open Go.ChangeShapes Go.WideShapes Go.ChangeAt Go.RowKit

/-- The list has the set's tiles, each once. -/
def SetSays (W : World) (f : T3 → Bool) (e : Ending) (w' : World) : Prop :=
  ∃ g cap us, e = .returned (.slice (some ⟨g, 0, none⟩) us.length cap) ∧ Reads w' (.slice (some ⟨g, 0, none⟩) us.length cap) us ∧ us.Nodup ∧ (∀ t, t ∈ us ↔ f t = true) ∧ us.length ≤ 32768 ∧ (∀ t ∈ us, ∃ k : Int, 0 ≤ k ∧ k ≤ 31 ∧ lev k t) ∧ Ext W w'

theorem set_end {W w1 w5 : World} {mb : Nat} {l : Ents} {f : T3 → Bool} {seen : Array Nat} {last : Nat} {ts : List T3} {g cap : Nat} {wr : World} {tail : List Value} (hM : MapOf l f) (h : SI W wr mb l seen last ts g cap) (h1 : w1.heap = wr.heap ∧ (∀ B W', Below B W' wr → Below B W' w1) ∧ ∀ i, i < l.length → i < l.length → i ∈ seen)
    (hs : Srt g (W.heap.size + 1) ts.length cap ts tail w1 w5) : SetSays W f (.returned (.slice (some ⟨g, 0, none⟩) ts.length cap)) w5 := by
  obtain ⟨d, hp, hrow⟩ := hs.sl.row
  have hf : ∀ t, t ∈ ts ↔ f t = true := fun t => by
    rw [h.mem t, ← hM.2.1 t]
    constructor
    · rintro ⟨i, _, e⟩; exact getB_at hM.1 e
    · intro hg
      obtain ⟨i, hi, e⟩ := List.mem_iff_getElem.1 (getB_mem hg)
      exact ⟨i, h1.2.2 i hi hi, by rw [List.getElem?_eq_getElem hi, e]⟩
  have hk : ∀ t ∈ ts, t ∈ l.map (·.1) := fun t ht => by
    obtain ⟨i, _, e⟩ := (h.mem t).1 ht
    exact List.mem_map.2 ⟨_, List.mem_of_getElem? e, rfl⟩
  have hlen : ts.length ≤ 32768 := by
    have := length_le_of_sub ts (l.map (·.1)) h.nd hk
    have := hM.length
    simp at *; omega
  refine ⟨g, cap, d, by rw [hp.length_eq], ?_, hp.nodup_iff.2 h.nd, fun t => by rw [hp.mem_iff]; exact hf t, by rw [hp.length_eq]; exact hlen, fun t ht => hM.2.2 t (hk t (hp.mem_iff.1 ht)), ?_⟩
  · refine .inr ⟨g, 0, cap, rfl, by rw [hp.length_eq]; exact hs.sl.ncap, hs.sl.max, fun i t ht => ?_⟩
    have hi : i < d.length := (List.getElem?_eq_some_iff.1 ht).1
    obtain ⟨x, y, z⟩ := cells3_get .i64 d i t ht
    have hL := cells3_length .i64 d
    have R := cell_of_blk hrow
    refine ⟨?_, ?_, ?_⟩
    · rw [Nat.zero_add, R, List.getElem?_toArray, List.getElem?_append_left (by omega)]; exact x
    · rw [Nat.zero_add, R, List.getElem?_toArray, List.getElem?_append_left (by omega)]; exact y
    · rw [Nat.zero_add, R, List.getElem?_toArray, List.getElem?_append_left (by omega)]; exact z
  · have hb := h.base
    have b1 : Below W.heap.size W w1 := h1.2.1 _ _ h.ext
    refine ⟨hs.keep.os.symm.trans b1.os, hs.keep.tape.symm.trans b1.tape, hs.keep.output.symm.trans b1.output, Nat.le_trans b1.size hs.keep.size, fun k hk => ?_⟩
    exact (hs.keep.block k (Nat.lt_of_lt_of_le hk b1.size) (by omega)).trans (b1.block k hk)

set_option maxRecDepth 8000 in
set_option maxHeartbeats 3200000 in
theorem set_any (mb : Nat) (l : Ents) (f : T3 → Bool) (W : World) (hs : SetAt .u32 W mb l) (hM : MapOf l f) :
    Calls Try.prog 14 #[.map (some mb)] W (SetSays W f) := by
  have S0 := Lib.hid (SI.start W mb l hs)
  have HM := Lib.hid hM; clear hM
  have hrange := run_range_set (M := 39) Try.underlying39 ((W.alloc (.cells #[] 28)).alloc (.cells #[.slice (some ⟨W.heap.size, 0, none⟩) 0 0] 23)) mb l (blk_old (blk_old hs _) _)
  obtain ⟨i0, hi0, hz0, hz1, hz2⟩ := info_parts infoT
  go_enter Try.func14, Try.ntmps14
  go_wp2
  go_loopg [] (mu (fun _ => false) [] l #[] []) (fun R wr => ∃ (seen : Array Nat) (last : Nat) (ts : List T3) (g cap : Nat), R = mu (fun _ => false) [] l seen [] ∧ SI W wr mb l seen last ts g cap)
  case atStart => exact ⟨#[], l.length, [], W.heap.size, 0, rfl, S0.out⟩
  case round =>
    clear S0 hrange hs
    obtain ⟨seen, last, ts, g, cap, rfl, hN⟩ := hrel
    have HN := Lib.hid hN; clear hN
    obtain ⟨wi, rfl⟩ : ∃ wi : World, wi = wr := ⟨_, rfl⟩
    go_wp2_with (first
      | (at_next; refine wpList_next_set rfl _ rfl (W.heap.size + 2) mb l.length last seen l rfl HN.out.it HN.out.sm (by have := HN.out.mw; omega) HN.out.la (fun w1 h1 => ?_) (fun i x y z v w3 h3 hent => ?_)
         rotate_left
         rcases v with _ | _
         rotate_left 2
         have B1 := cell_of_blk (show w1.heap[W.heap.size + 1]? = _ from (congrArg (fun h : Array Obj => h[W.heap.size + 1]?) h1.out.1).trans HN.out.bx))
      | fail)
    · obtain ⟨tail, hrow⟩ := HN.out.own.row
      have hlen : ts.length ≤ 1048576 := by
        have := length_le_of_sub ts (l.map (·.1)) HN.out.nd (fun t ht => by
          obtain ⟨i, _, e⟩ := (HN.out.mem t).1 ht
          exact List.mem_map.2 ⟨_, List.mem_of_getElem? e, rfl⟩)
        have := HM.out.length
        simp at *; omega
      obtain ⟨g2, cap2, hv, _, hc1, hc2⟩ := HN.out.own.form
      cases hv
      have hsl : Sl g (W.heap.size + 1) ts.length cap ts tail w1 := ⟨⟨ts, .refl _, by rw [h1.out.1]; exact hrow⟩, by rw [h1.out.1]; exact HN.out.bx, rfl, hc1, hc2, Ne.symm HN.out.far1⟩
      refine (sort_any w1 hsl hlen).mono ?_
      rintro e w5 ⟨rfl, hs⟩
      have C5 := cell_of_blk hs.sl.box
      have HS := Lib.hid (set_end HM.out HN.out h1.out hs)
      clear hs hsl hrow
      go_wp2
      go_ret
      exact HS.out
    · go_roundg (mu (fun _ => false) [] l (seen.push i) [])
      case measure => exact mu_skip _ _ _ _ _ _ (List.getElem?_eq_some_iff.1 h3.out.1).1 h3.out.2.1
      case rel => exact ⟨seen.push i, l.length, ts, g, cap, rfl, HN.out.skip h3.out ((Ext.refl _).alloc _)⟩
    · obtain ⟨BX3, OW3, EX3⟩ := HN.out.step h3.out
      obtain ⟨k, hk0, hk1, hlv⟩ := HM.out.2.2 (x, y, z) (List.mem_map.2 ⟨_, List.mem_of_getElem? h3.out.1, rfl⟩)
      obtain ⟨hz, q1, q2, q3, q4⟩ : z = k ∧ 0 ≤ x ∧ x ≤ 31 ∧ 0 ≤ y ∧ y ≤ 31 := hlv
      subst hz
      have hlen : ts.length ≤ 32768 := by
        have := length_le_of_sub ts (l.map (·.1)) HN.out.nd (fun t ht => by
          obtain ⟨i, _, e⟩ := (HN.out.mem t).1 ht
          exact List.mem_map.2 ⟨_, List.mem_of_getElem? e, rfl⟩)
        have := HM.out.length
        simp at *; omega
      have hne := HN.out.far1
      have hbx : W.heap.size + 1 < w3.heap.size := (Array.getElem?_eq_some_iff.1 BX3).1
      have BX := Lib.hid (blk_old BX3 (.cells #[.int .u32 x, .int .u32 y, .int .u32 z] 45))
      have CT := cell_of_blk (blk_new w3 (.cells #[.int .u32 x, .int .u32 y, .int .u32 z] 45))
      have OW := Lib.hid (Ext.owns ((Ext.refl w3).alloc (.cells #[.int .u32 x, .int .u32 y, .int .u32 z] 45)) OW3)
      have XB := Lib.hid ((Ext.refl w3).alloc (.cells #[.int .u32 x, .int .u32 y, .int .u32 z] 45))
      have hbx2 := XB.out.size
      have CB := cell_of_blk BX.out
      clear BX3 OW3 EX3 hent
      generalize w3.alloc (.cells #[.int .u32 x, .int .u32 y, .int .u32 z] 45) = wb at *
      go_region_law (first
        | (go_simp
           go_at_call 20
           refine (plain_any x y z _ q1 (by omega) q3 (by omega) hk0 (by omega)).mono ?_
           rintro e w5 ⟨rfl, hw5⟩
           have X5 := Lib.hid (((Ext.refl wb).drew).trans hw5)
           have s5 : W.heap.size + 1 < w5.heap.size := by have := X5.out.size; omega
           have n5 : W.heap.size + 1 ≠ w5.heap.size := by omega
           have C5 := cell_of_blk (Ext.blk X5.out BX.out)
           have D5 := cell_of_blk (blk_old (Ext.blk X5.out BX.out) (.cells #[.int .i64 x, .int .i64 y, .int .i64 z] 28)))
        | (refine step_append_lies _ rfl (.tmp 15) (.tmp 18) 23 rfl W.heap.size 28 i0 _ 3 24 Try.underlying23 hi0 hz0 hz1 hz2 rfl (by decide) _ ts.length (cells3 .i64 ts) (by rfl) (Ext.owns (X5.out.alloc _) OW.out).1
             ⟨w5.heap.size, 0, none⟩ 1 1 [.int .i64 x, .int .i64 y, .int .i64 z] (by rfl) (by rfl) (World.news_of_block (cs := #[.int .i64 x, .int .i64 y, .int .i64 z]) (t := 28) (fr := (0, 0)) (heap_alloc_new w5 _)) (by simp [Value.oneCell'])
             (by omega) (by simp only [maxLen]; omega) (by omega) (by have := X5.out.size; simp; omega) (w5.heap.size + 1) (by simp) ?_
           intro g6 cap6 w6 hown6 hgrow6 hat6 hlt6
           have H6 := Lib.hid (And.intro hown6 (And.intro hgrow6 hat6))
           have B6 := Lib.hid ((H6.out.2.1.block (W.heap.size + 1) (by have := X5.out.size; simp; omega) (fun e => hne (Option.some.inj e).symm)).trans (blk_old (Ext.blk X5.out BX.out) _))
           clear hown6 hgrow6 hat6
           have C6 := cell_of_blk B6.out
           have F6 := free_of_blk B6.out))
      all_goals
        go_wp2
        go_roundg (mu (fun _ => false) [] l (seen.push i) [])
        case measure => exact mu_skip _ _ _ _ _ _ (List.getElem?_eq_some_iff.1 h3.out.1).1 h3.out.2.1
        case rel =>
          refine ⟨seen.push i, l.length, ts ++ [(x, y, z)], g6, cap6, rfl, ?_⟩
          have := HN.out.push HM.out.1 h3.out ((XB.out.trans X5.out).alloc (.cells #[.int .i64 x, .int .i64 y, .int .i64 z] 28)) (by rw [cells3_append]; exact H6.out.1) H6.out.2.1 (by simpa [Value.ownBlock] using H6.out.2.2)
          exact this

end Go.Proofs.Ytdkknlnlfaoapaa
