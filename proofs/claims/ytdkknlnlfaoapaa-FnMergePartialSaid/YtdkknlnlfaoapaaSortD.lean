/- Sorting by a heap: the row holds the same tiles in some order. No condition but the bounds. -/
import Derived.Test.YtdkknlnlfaoapaaSortC
namespace Go.Proofs.Ytdkknlnlfaoapaa
open Go.ChangeShapes Go.WideShapes Go.ChangeAt Go.RowKit

section
variable {g bx n cap : Nat} {ts : List T3} {tail : List Value}
/-- 'Less' at numbers that are spelt in some way. -/
theorem less_at (w : World) (h : Sl g bx n cap ts tail w) (x y : Int) (i j : Nat) (hx : x = i) (hy : y = j) (hi : i < n) (hj : j < n) :
    Calls Try.prog 22 #[.int .i64 x, .int .i64 y, .pointer (some ⟨bx, 0, none⟩)] w fun e w' => SaysB e ∧ Ext w w' := by
  subst hx; subst hy; exact less_any i j w h hi hj
theorem swap_at (w : World) (h : Sl g bx n cap ts tail w) (x y : Int) (i j : Nat) (hx : x = i) (hy : y = j) (hi : i < n) (hj : j < n) :
    ∃ w', (callFunc 40 #[.int .i64 x, .int .i64 y, .slice (some ⟨g, 0, none⟩) n cap, typeHandle Try.prog 28]).run Try.prog w = .ok (.value (.tuple #[])) w' ∧ Sl g bx n cap ts tail w' ∧ Keep g w w' := by
  subst hx; subst hy; exact swap_any i j w h hi hj

set_option maxRecDepth 8000 in
set_option maxHeartbeats 1600000 in
theorem siftdown_any (lo hi first : Nat) (W : World) (h : Sl g bx n cap ts tail W) (hlo : lo ≤ n) (hf : first + hi ≤ n) (hn : n ≤ 1048576) :
    Calls Try.prog 51 #[.agg #[(.func (.func 22) #[] #[.pointer (some ⟨bx, 0, none⟩)]), (.func (.func 40) #[] #[.slice (some ⟨g, 0, none⟩) n cap, typeHandle Try.prog 28])], .int .i64 lo, .int .i64 hi, .int .i64 first] W fun e w' => e = .returned (.tuple #[]) ∧ Srt g bx n cap ts tail W w' := by
  have H0 := Lib.hid h; clear h
  have hg : g < W.heap.size := by obtain ⟨d, _, hd⟩ := H0.out.row; exact (Array.getElem?_eq_some_iff.1 hd).1
  have D0 := Lib.hid (blk_new W (.cells #[(.func (.func 22) #[] #[.pointer (some ⟨bx, 0, none⟩)]), (.func (.func 40) #[] #[.slice (some ⟨g, 0, none⟩) n cap, typeHandle Try.prog 28])] 69))
  go_enter Try.func51, Try.ntmps51
  go_wp2
  go_loopg [8] (hi - lo) (fun r v wr => ∃ root : Nat, r = hi - root ∧ v = .int .i64 (root : Nat) ∧ root ≤ n ∧ Srt g bx n cap ts tail W wr ∧ wr.heap[W.heap.size]? = some (.cells #[(.func (.func 22) #[] #[.pointer (some ⟨bx, 0, none⟩)]), (.func (.func 40) #[] #[.slice (some ⟨g, 0, none⟩) n cap, typeHandle Try.prog 28])] 69 (0, 0)))
  case atStart => exact ⟨lo, rfl, rfl, hlo, ⟨H0.out.ext ((Ext.refl _).alloc _), (Keep.refl g W).ext ((Ext.refl _).alloc _)⟩, D0.out⟩
  case round =>
    obtain ⟨root, rfl, rfl, hroot, hS, hD⟩ := hrel
    have HS := Lib.hid hS; have HD := Lib.hid hD; clear hS hD
    have C2 := cell_of_blk HD.out
    by_cases hc : 2 * root + 1 < hi
    · have hl1 : decide (2 * (root : Int) + 1 ≥ hi) = false := by simp; omega
      have hl2 : decide ((hi : Int) ≤ 2 * root + 1) = false := by simp; omega
      have hl3 : decide (hi ≤ 2 * root + 1) = false := by simp; omega
      by_cases hc2 : 2 * root + 1 + 1 < hi
      · have hm1 : decide (2 * (root : Int) + 1 + 1 < hi) = true := by simp; omega
        have hm2 : decide (2 * root + 1 + 1 < hi) = true := by simp; omega
        go_wp2_with fail
        refine (less_at wr HS.out.sl _ _ (first + (2 * root + 1)) (first + (2 * root + 1 + 1)) (by omega) (by omega) (by omega) (by omega)).mono ?_
        rintro e w3 ⟨⟨bb, rfl⟩, hx3⟩
        have hx3 := Lib.hid hx3
        have C3 := cell_of_blk (Ext.blk hx3.out HD.out)
        rcases bb with _ | _
        · go_wp2_with fail
          refine (less_at w3 (HS.out.ext hx3.out).sl _ _ (first + root) (first + (2 * root + 1)) (by omega) (by omega) (by omega) (by omega)).mono ?_
          rintro e w4 ⟨⟨b2, rfl⟩, hx4⟩
          have hx4 := Lib.hid hx4
          have C4 := cell_of_blk (Ext.blk hx4.out (Ext.blk hx3.out HD.out))
          obtain ⟨w5, hsw, hs5⟩ := swap_at w4 ((HS.out.ext hx3.out).sl.ext hx4.out) ((first : Int) + root) ((first : Int) + (2 * (root : Int) + 1)) (first + root) (first + (2 * root + 1)) (by omega) (by omega) (by omega) (by omega)
          have hs5 := Lib.hid hs5
          rcases b2 with _ | _
          · go_wp2
            exact bodyPost_ret (v := .tuple #[]) (by simp [results, Try.results51, go_sem]) rfl ⟨rfl, (HS.out.ext hx3.out).ext hx4.out⟩
          · go_wp2
            go_roundg (hi - (2 * root + 1))
            case measure => omega
            case rel =>
              have hb4 := Ext.blk hx4.out (Ext.blk hx3.out HD.out)
              exact ⟨2 * root + 1, rfl, by go_num, by omega, ((HS.out.ext hx3.out).ext hx4.out).swap hs5.out, (hs5.out.2.block _ (Array.getElem?_eq_some_iff.1 hb4).1 (by omega)).trans hb4⟩
        · go_wp2_with fail
          refine (less_at w3 (HS.out.ext hx3.out).sl _ _ (first + root) (first + (2 * root + 1 + 1)) (by omega) (by omega) (by omega) (by omega)).mono ?_
          rintro e w4 ⟨⟨b2, rfl⟩, hx4⟩
          have hx4 := Lib.hid hx4
          have C4 := cell_of_blk (Ext.blk hx4.out (Ext.blk hx3.out HD.out))
          obtain ⟨w5, hsw, hs5⟩ := swap_at w4 ((HS.out.ext hx3.out).sl.ext hx4.out) ((first : Int) + root) ((first : Int) + (2 * (root : Int) + 1 + 1)) (first + root) (first + (2 * root + 1 + 1)) (by omega) (by omega) (by omega) (by omega)
          have hs5 := Lib.hid hs5
          rcases b2 with _ | _
          · go_wp2
            exact bodyPost_ret (v := .tuple #[]) (by simp [results, Try.results51, go_sem]) rfl ⟨rfl, (HS.out.ext hx3.out).ext hx4.out⟩
          · go_wp2
            go_roundg (hi - (2 * root + 1 + 1))
            case measure => omega
            case rel =>
              have hb4 := Ext.blk hx4.out (Ext.blk hx3.out HD.out)
              exact ⟨2 * root + 1 + 1, rfl, by go_num, by omega, ((HS.out.ext hx3.out).ext hx4.out).swap hs5.out, (hs5.out.2.block _ (Array.getElem?_eq_some_iff.1 hb4).1 (by omega)).trans hb4⟩
      · have hm1 : decide (2 * (root : Int) + 1 + 1 < hi) = false := by simp; omega
        have hm2 : decide (2 * root + 1 + 1 < hi) = false := by simp; omega
        go_wp2_with fail
        refine (less_at wr HS.out.sl _ _ (first + root) (first + (2 * root + 1)) (by omega) (by omega) (by omega) (by omega)).mono ?_
        rintro e w4 ⟨⟨b2, rfl⟩, hx4⟩
        have hx4 := Lib.hid hx4
        have C4 := cell_of_blk (Ext.blk hx4.out HD.out)
        obtain ⟨w5, hsw, hs5⟩ := swap_at w4 (HS.out.sl.ext hx4.out) ((first : Int) + root) ((first : Int) + (2 * (root : Int) + 1)) (first + root) (first + (2 * root + 1)) (by omega) (by omega) (by omega) (by omega)
        have hs5 := Lib.hid hs5
        rcases b2 with _ | _
        · go_wp2
          exact bodyPost_ret (v := .tuple #[]) (by simp [results, Try.results51, go_sem]) rfl ⟨rfl, HS.out.ext hx4.out⟩
        · go_wp2
          go_roundg (hi - (2 * root + 1))
          case measure => omega
          case rel =>
            have hb4 := Ext.blk hx4.out HD.out
            exact ⟨2 * root + 1, rfl, by go_num, by omega, (HS.out.ext hx4.out).swap hs5.out, (hs5.out.2.block _ (Array.getElem?_eq_some_iff.1 hb4).1 (by omega)).trans hb4⟩
    · have hl1 : decide (2 * (root : Int) + 1 ≥ hi) = true := by simp; omega
      have hl2 : decide ((hi : Int) ≤ 2 * root + 1) = true := by simp; omega
      have hl3 : decide (hi ≤ 2 * root + 1) = true := by simp; omega
      go_wp2
      go_end0
      exact ⟨rfl, HS.out⟩
end

end Go.Proofs.Ytdkknlnlfaoapaa
