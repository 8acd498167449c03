/- The thin package's merging: the list's tiles in, the answer's tiles out. Conditions: one zoom, at most 32 columns and rows. -/
import Derived.Test.YtdkknlnlfaoapaaMergeTiles
import Derived.Test.YtdkknlnlfaoapaaOrderB
import Derived.Test.YtdkknlnlfaoapaaMergeP
namespace Go.Proofs.Ytdkknlnlfaoapaa
open Go.ChangeShapes Go.WideShapes Go.ChangeAt Go.RowKit

def MergeSays (b : Nat) (W : World) (f : T3 → Bool) (e : Ending) (w' : World) : Prop :=
  ∃ b' l', e = .returned (.map (some b')) ∧ SetAt .u32 w' b' l' ∧ MapOf l' f ∧ Below b W w'
theorem MapOf.congr {l : Ents} {f g : T3 → Bool} (h : MapOf l f) (e : ∀ t, f t = g t) : MapOf l g := ⟨h.1, fun t => (h.2.1 t).trans (e t), h.2.2⟩
theorem SetSays.ext {W W2 : World} {f : T3 → Bool} {e : Ending} {w' : World} (h : SetSays W2 f e w') (hx : Ext W W2) : SetSays W f e w' := by
  obtain ⟨g, cap, us, a, b, c, d, e1, e2, x⟩ := h
  exact ⟨g, cap, us, a, b, c, d, e1, e2, hx.trans x⟩
theorem getB_fun (ts : List T3) (nd : ts.Nodup) : getB (ts.map fun u => (u, true)) = fun t => decide (t ∈ ts) := by
  funext t; exact get_all ts nd t

section
variable {ts : List T3} {n low b : Nat} {W : World}
theorem mergeup_list (hn : n ≤ 5) (hlow : low ≤ n) (nd : ts.Nodup) (hlev : ∀ t ∈ ts, lev n t) (h0 : SetAt .u32 W b (ts.map fun u => (u, true))) :
    Calls Try.prog 15 #[.map (some b), .int .u32 low] W (MergeSays b W (res 4 (fun t => decide (t ∈ ts)) (n - low))) := by
  by_cases he : ts = []
  · subst he
    refine (mergeup_none b low W (by omega) h0).mono ?_
    rintro e w' ⟨b', l', h1, h2, h3, h4⟩
    exact ⟨b', l', h1, h2, h3.congr fun t => (res_none (by omega) (fun t => by simp) _ t).symm, h4⟩
  · refine (mergeup_some b n low (ts.map fun u => (u, true)) W hn hlow h0 (by rw [keys_all]; exact nd) (by simp) (by rw [keys_all]; exact hlev) (by simpa using he)).mono ?_
    rintro e w' ⟨b', l', h1, h2, h3, h4⟩
    rw [getB_fun ts nd] at h3
    exact ⟨b', l', h1, h2, h3, h4⟩
theorem mergepart_list {c : Nat} (hc1 : 1 ≤ c) (hc4 : c ≤ 4) (hn : n ≤ 5) (hlow : low ≤ n) (nd : ts.Nodup) (hlev : ∀ t ∈ ts, lev n t) (h0 : SetAt .u32 W b (ts.map fun u => (u, true))) :
    Calls Try.prog 19 #[.map (some b), .int .u32 low, .int .i64 c] W (MergeSays b W (res c (fun t => decide (t ∈ ts)) (n - low))) := by
  by_cases he : ts = []
  · subst he
    refine (mergepart_none b low c W (by omega) hc1 hc4 h0).mono ?_
    rintro e w' ⟨b', l', h1, h2, h3, h4⟩
    exact ⟨b', l', h1, h2, h3.congr fun t => (res_none hc1 (fun t => by simp) _ t).symm, h4⟩
  · refine (mergepart_some b n low c (ts.map fun u => (u, true)) W hn hlow hc1 hc4 h0 (by rw [keys_all]; exact nd) (by simp) (by rw [keys_all]; exact hlev) (by simpa using he)).mono ?_
    rintro e w' ⟨b', l', h1, h2, h3, h4⟩
    rw [getB_fun ts nd] at h3
    exact ⟨b', l', h1, h2, h3, h4⟩
end

set_option maxHeartbeats 800000 in
theorem imerge_any (g cap n low : Nat) (ts : List T3) (w : World) (h : Reads w (.slice (some ⟨g, 0, none⟩) ts.length cap) ts) (nd : ts.Nodup) (hn : n ≤ 5) (hlow : low ≤ n) (hlev : ∀ t ∈ ts, lev n t) :
    Calls Try.prog 7 #[.slice (some ⟨g, 0, none⟩) ts.length cap, .int .i64 low] w (SetSays w (res 4 (fun t => decide (t ∈ ts)) (n - low))) := by
  have HT := Lib.hid (tiles_any g 0 cap n ts w h nd hn hlev)
  have HM := Lib.hid (fun W => mergeup_list (ts := ts) (n := n) (low := low) (b := w.heap.size) (W := W) hn hlow nd hlev)
  clear h nd hlev
  go_enter Try.func7, Try.ntmps7
  go_wp2_with fail
  refine HT.out.mono ?_
  rintro e w2 ⟨rfl, hs, hx⟩
  have HS := Lib.hid hs; have HX := Lib.hid hx; clear hs hx
  go_wp2_with fail
  refine (HM.out _ HS.out).mono ?_
  rintro e w3 ⟨b', l', rfl, hs3, hm3, hb3⟩
  have HS3 := Lib.hid hs3; have HM3 := Lib.hid hm3
  have X3 := Lib.hid (show Ext w w3 from Below.trans HX.out hb3)
  clear hs3 hm3 hb3
  go_wp2_with fail
  refine (set_any b' l' _ w3 HS3.out HM3.out).mono ?_
  intro e w4 hsay
  have HSAY := Lib.hid (hsay.ext X3.out)
  obtain ⟨g4, c4, us, rfl, _⟩ := hsay
  go_wp2
  go_ret
  exact HSAY.out

set_option maxHeartbeats 800000 in
theorem imergepart_any (g cap n low c : Nat) (ts : List T3) (w : World) (h : Reads w (.slice (some ⟨g, 0, none⟩) ts.length cap) ts) (nd : ts.Nodup) (hn : n ≤ 5) (hlow : low ≤ n) (hlev : ∀ t ∈ ts, lev n t) (hc1 : 1 ≤ c) (hc4 : c ≤ 4) :
    Calls Try.prog 13 #[.slice (some ⟨g, 0, none⟩) ts.length cap, .int .i64 low, .int .i64 c] w (SetSays w (res c (fun t => decide (t ∈ ts)) (n - low))) := by
  have HT := Lib.hid (tiles_any g 0 cap n ts w h nd hn hlev)
  have HM := Lib.hid (fun W => mergepart_list (ts := ts) (n := n) (low := low) (b := w.heap.size) (W := W) hc1 hc4 hn hlow nd hlev)
  clear h nd hlev
  go_enter Try.func13, Try.ntmps13
  go_wp2_with fail
  refine HT.out.mono ?_
  rintro e w2 ⟨rfl, hs, hx⟩
  have HS := Lib.hid hs; have HX := Lib.hid hx; clear hs hx
  go_wp2_with fail
  refine (HM.out _ HS.out).mono ?_
  rintro e w3 ⟨b', l', rfl, hs3, hm3, hb3⟩
  have HS3 := Lib.hid hs3; have HM3 := Lib.hid hm3
  have X3 := Lib.hid (show Ext w w3 from Below.trans HX.out hb3)
  clear hs3 hm3 hb3
  go_wp2_with fail
  refine (set_any b' l' _ w3 HS3.out HM3.out).mono ?_
  intro e w4 hsay
  have HSAY := Lib.hid (hsay.ext X3.out)
  obtain ⟨g4, c4, us, rfl, _⟩ := hsay
  go_wp2
  go_ret
  exact HSAY.out

end Go.Proofs.Ytdkknlnlfaoapaa
