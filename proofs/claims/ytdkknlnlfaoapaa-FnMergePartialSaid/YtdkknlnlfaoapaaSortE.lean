/- Sorting by a heap, whole: the row holds the same tiles in some order. No condition but the bounds. -/
import Derived.Test.YtdkknlnlfaoapaaSortD
namespace Go.Proofs.Ytdkknlnlfaoapaa
open Go.ChangeShapes Go.WideShapes Go.ChangeAt Go.RowKit

section
variable {g bx n cap : Nat} {ts : List T3} {tail : List Value}
theorem sift_at (w : World) (h : Sl g bx n cap ts tail w) (x y z : Int) (lo hi first : Nat) (hx : x = lo) (hy : y = hi) (hz : z = first) (hlo : lo ≤ n) (hf : first + hi ≤ n) (hn : n ≤ 1048576) :
    Calls Try.prog 51 #[.agg #[(.func (.func 22) #[] #[.pointer (some ⟨bx, 0, none⟩)]), (.func (.func 40) #[] #[.slice (some ⟨g, 0, none⟩) n cap, typeHandle Try.prog 28])], .int .i64 x, .int .i64 y, .int .i64 z] w fun e w' => e = .returned (.tuple #[]) ∧ Srt g bx n cap ts tail w w' := by
  subst hx; subst hy; subst hz; exact siftdown_any lo hi first w h hlo hf hn

set_option maxRecDepth 8000 in
set_option maxHeartbeats 1600000 in
theorem heapsort_any (a b : Nat) (W : World) (h : Sl g bx n cap ts tail W) (hab : a < b) (hb : b ≤ n) (hn : n ≤ 1048576) :
    Calls Try.prog 44 #[.agg #[(.func (.func 22) #[] #[.pointer (some ⟨bx, 0, none⟩)]), (.func (.func 40) #[] #[.slice (some ⟨g, 0, none⟩) n cap, typeHandle Try.prog 28])], .int .i64 a, .int .i64 b] W fun e w' => e = .returned (.tuple #[]) ∧ Srt g bx n cap ts tail W w' := by
  have H0 := Lib.hid h; clear h
  have hg : g < W.heap.size := by obtain ⟨d, _, hd⟩ := H0.out.row; exact (Array.getElem?_eq_some_iff.1 hd).1
  have D0 := Lib.hid (blk_new W (.cells #[(.func (.func 22) #[] #[.pointer (some ⟨bx, 0, none⟩)]), (.func (.func 40) #[] #[.slice (some ⟨g, 0, none⟩) n cap, typeHandle Try.prog 28])] 69))
  obtain ⟨hi, rfl⟩ : ∃ hi, b = a + hi := ⟨b - a, by omega⟩
  go_enter Try.func44, Try.ntmps44
  go_wp2
  go_loopg [9] ((hi - 1) / 2 + 1) (fun r v wr => ∃ k : Nat, k = r ∧ v = .int .i64 ((k : Int) - 1) ∧ k ≤ n ∧ Srt g bx n cap ts tail W wr ∧ wr.heap[W.heap.size]? = some (.cells #[(.func (.func 22) #[] #[.pointer (some ⟨bx, 0, none⟩)]), (.func (.func 40) #[] #[.slice (some ⟨g, 0, none⟩) n cap, typeHandle Try.prog 28])] 69 (0, 0)))
  case atStart => exact ⟨_, rfl, congrArg (Value.int .i64) (by omega), by omega, ⟨H0.out.ext ((Ext.refl _).alloc _), (Keep.refl g W).ext ((Ext.refl _).alloc _)⟩, D0.out⟩
  case round =>
    obtain ⟨k, rfl, rfl, hk, hS, hD⟩ := hrel
    have HS := Lib.hid hS; have HD := Lib.hid hD; clear hS hD
    have C2 := cell_of_blk HD.out
    rcases Nat.eq_zero_or_pos k with rfl | hpos
    · go_wp2
      go_loopg [10] hi (fun r v wr => ∃ k : Nat, k = r ∧ v = .int .i64 ((k : Int) - 1) ∧ k ≤ hi ∧ Srt g bx n cap ts tail W wr ∧ wr.heap[W.heap.size]? = some (.cells #[(.func (.func 22) #[] #[.pointer (some ⟨bx, 0, none⟩)]), (.func (.func 40) #[] #[.slice (some ⟨g, 0, none⟩) n cap, typeHandle Try.prog 28])] 69 (0, 0)))
      case atStart => exact ⟨_, rfl, congrArg (Value.int .i64) (by omega), by omega, HS.out, HD.out⟩
      case round =>
        clear HS HD C2 hk
        obtain ⟨k, rfl, rfl, hk, hS, hD⟩ := hrel
        have HS := Lib.hid hS; have HD := Lib.hid hD; clear hS hD
        have C2 := cell_of_blk HD.out
        rcases Nat.eq_zero_or_pos k with rfl | hpos
        · go_wp2
          go_end0
          exact ⟨rfl, HS.out⟩
        · obtain ⟨q, rfl⟩ : ∃ q, k = q + 1 := ⟨k - 1, by omega⟩
          have hl1 : decide ((q : Int) ≥ 0) = true := by simp
          have hl2 : decide ((0 : Int) ≤ q) = true := by simp
          obtain ⟨w5, hsw, hs5⟩ := swap_at wr HS.out.sl (a : Int) ((a : Int) + q) a (a + q) (by omega) (by omega) (by omega) (by omega)
          have hs5 := Lib.hid hs5
          have hb5 := Lib.hid ((hs5.out.2.block _ (Array.getElem?_eq_some_iff.1 HD.out).1 (by omega)).trans HD.out)
          have C5 := cell_of_blk hb5.out
          go_wp2_with fail
          refine (sift_at w5 hs5.out.1 _ _ _ 0 q a (by omega) (by omega) (by omega) (by omega) (by omega) hn).mono ?_
          rintro e w6 ⟨rfl, hs6⟩
          have hs6 := Lib.hid hs6
          go_wp2
          go_roundg q
          case measure => omega
          case rel => exact ⟨q, rfl, by go_num, by omega, (HS.out.swap hs5.out).trans hs6.out, (hs6.out.keep.block _ (Array.getElem?_eq_some_iff.1 hb5.out).1 (by omega)).trans hb5.out⟩
    · obtain ⟨q, rfl⟩ : ∃ q, k = q + 1 := ⟨k - 1, by omega⟩
      have hl1 : decide ((q : Int) ≥ 0) = true := by simp
      have hl2 : decide ((0 : Int) ≤ q) = true := by simp
      go_wp2_with fail
      refine (sift_at wr HS.out.sl _ _ _ q hi a (by omega) (by omega) (by omega) (by omega) (by omega) hn).mono ?_
      rintro e w6 ⟨rfl, hs6⟩
      have hs6 := Lib.hid hs6
      go_wp2
      go_roundg q
      case measure => omega
      case rel => exact ⟨q, rfl, by go_num, by omega, HS.out.trans hs6.out, (hs6.out.keep.block _ (Array.getElem?_eq_some_iff.1 HD.out).1 (by omega)).trans HD.out⟩
end

end Go.Proofs.Ytdkknlnlfaoapaa
