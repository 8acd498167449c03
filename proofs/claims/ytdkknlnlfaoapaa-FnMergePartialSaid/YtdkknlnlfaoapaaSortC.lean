/- Sorting by insertion: the row holds the same tiles in some order. No condition but the bounds. -/
import Derived.Test.YtdkknlnlfaoapaaSortB
namespace Go.Proofs.Ytdkknlnlfaoapaa
open Go.ChangeShapes Go.WideShapes Go.ChangeAt Go.RowKit

/-- What a step of the sort does to the world. -/
structure Srt (g bx n cap : Nat) (ts : List T3) (tail : List Value) (W w : World) : Prop where
  sl : Sl g bx n cap ts tail w
  keep : Keep g W w
section
variable {g bx n cap : Nat} {ts : List T3} {tail : List Value}
theorem Srt.ext {W w w2 : World} (h : Srt g bx n cap ts tail W w) (hx : Ext w w2) : Srt g bx n cap ts tail W w2 := ⟨h.sl.ext hx, h.keep.ext hx⟩
theorem Srt.trans {a b c : World} (h : Srt g bx n cap ts tail a b) (k : Srt g bx n cap ts tail b c) : Srt g bx n cap ts tail a c := ⟨k.sl, h.keep.trans k.keep⟩
theorem Srt.swap {W w w2 : World} (h : Srt g bx n cap ts tail W w) (hs : Sl g bx n cap ts tail w2 ∧ Keep g w w2) : Srt g bx n cap ts tail W w2 := ⟨hs.1, h.keep.trans hs.2⟩

set_option maxRecDepth 8000 in
set_option maxHeartbeats 1600000 in
theorem insertion_any (a b : Nat) (W : World) (h : Sl g bx n cap ts tail W) (hab : a ≤ b) (hb : b ≤ n) (hn : n ≤ 1048576) :
    Calls Try.prog 43 #[.agg #[(.func (.func 22) #[] #[.pointer (some ⟨bx, 0, none⟩)]), (.func (.func 40) #[] #[.slice (some ⟨g, 0, none⟩) n cap, typeHandle Try.prog 28])], .int .i64 a, .int .i64 b] W fun e w' => e = .returned (.tuple #[]) ∧ Srt g bx n cap ts tail W w' := by
  have H0 := Lib.hid h; clear h
  have hg : g < W.heap.size := by obtain ⟨d, _, hd⟩ := H0.out.row; exact (Array.getElem?_eq_some_iff.1 hd).1
  have D0 := Lib.hid (blk_new W (.cells #[(.func (.func 22) #[] #[.pointer (some ⟨bx, 0, none⟩)]), (.func (.func 40) #[] #[.slice (some ⟨g, 0, none⟩) n cap, typeHandle Try.prog 28])] 69))
  go_enter Try.func43, Try.ntmps43
  go_wp2
  go_loopg [6] (b + 1 - (a + 1)) (fun r vi wr => ∃ i : Nat, r = b + 1 - i ∧ i ≤ b + 1 ∧ vi = .int .i64 (i : Nat) ∧ a < i ∧ Srt g bx n cap ts tail W wr ∧ wr.heap[W.heap.size]? = some (.cells #[(.func (.func 22) #[] #[.pointer (some ⟨bx, 0, none⟩)]), (.func (.func 40) #[] #[.slice (some ⟨g, 0, none⟩) n cap, typeHandle Try.prog 28])] 69 (0, 0)))
  case atStart => exact ⟨a + 1, rfl, by omega, by go_num, by omega, ⟨H0.out.ext ((Ext.refl _).alloc _), (Keep.refl g W).ext ((Ext.refl _).alloc _)⟩, D0.out⟩
  case round =>
    obtain ⟨i, rfl, hi1, rfl, hai, hS, hD⟩ := hrel
    have HS := Lib.hid hS; have HD := Lib.hid hD; clear hS hD
    by_cases hlt : i < b
    · have hl : decide ((i : Int) < b) = true := by simp; omega
      go_wp2
      go_loopg [7] i (fun r vj wr2 => ∃ j : Nat, j = r ∧ vj = .int .i64 (j : Nat) ∧ a ≤ j ∧ j ≤ i ∧ Srt g bx n cap ts tail W wr2 ∧ wr2.heap[W.heap.size]? = some (.cells #[(.func (.func 22) #[] #[.pointer (some ⟨bx, 0, none⟩)]), (.func (.func 40) #[] #[.slice (some ⟨g, 0, none⟩) n cap, typeHandle Try.prog 28])] 69 (0, 0)))
      case atStart => exact ⟨i, rfl, rfl, by omega, by omega, HS.out, HD.out⟩
      case round =>
        obtain ⟨j, rfl, rfl, haj, hji, hS2, hD2⟩ := hrel
        have HS2 := Lib.hid hS2; have HD2 := Lib.hid hD2; clear hS2 hD2
        have C2 := cell_of_blk HD2.out
        by_cases hja : a < j
        · have hl2 : decide ((j : Int) > a) = true := by simp; omega
          have hl3 : decide ((a : Int) < j) = true := by simp; omega
          have hl4 : decide (a < j) = true := by simp; omega
          obtain ⟨q, rfl⟩ : ∃ q, j = q + 1 := ⟨j - 1, by omega⟩
          have HLE := Lib.hid (show ∀ x y : Int, x = q + 1 → y = q → Calls Try.prog 22 #[.int .i64 x, .int .i64 y, .pointer (some ⟨bx, 0, none⟩)] wr fun e w' => SaysB e ∧ Ext wr w' by
            rintro x y rfl rfl
            have := less_any (q + 1) q wr HS2.out.sl (by omega) (by omega)
            rwa [Int.natCast_add, Int.natCast_one] at this)
          go_wp2_with (first
            | (go_at_call 22; refine (HLE.out _ _ (by omega) (by omega)).mono ?_; rintro e w3 ⟨⟨bb, rfl⟩, hx3⟩
               have hx3 := Lib.hid hx3
               have C3 := cell_of_blk (Ext.blk hx3.out HD2.out)
               obtain ⟨w4, hsw, hs4⟩ := swap_any (q + 1) q w3 (HS2.out.sl.ext hx3.out) (by omega) (by omega)
               have hs4 := Lib.hid hs4
               rw [Int.natCast_add, Int.natCast_one] at hsw
               rcases bb with _ | _)
            | fail)
          · go_roundg (b + 1 - (i + 1))
            case measure => omega
            case rel => exact ⟨i + 1, rfl, by omega, by go_num, by omega, HS2.out.ext hx3.out, Ext.blk hx3.out HD2.out⟩
          · go_roundg q
            case measure => omega
            case rel =>
              have hb3 := Ext.blk hx3.out HD2.out
              exact ⟨q, rfl, by go_num, by omega, by omega, (HS2.out.ext hx3.out).swap hs4.out, (hs4.out.2.block _ (Array.getElem?_eq_some_iff.1 hb3).1 (by omega)).trans hb3⟩
        · have hl2 : decide ((j : Int) > a) = false := by simp; omega
          have hl3 : decide ((a : Int) < j) = false := by simp; omega
          have hl4 : decide (a < j) = false := by simp; omega
          go_wp2
          go_roundg (b + 1 - (i + 1))
          case measure => omega
          case rel => exact ⟨i + 1, rfl, by omega, by go_num, by omega, HS2.out, HD2.out⟩
    · have hl : decide ((i : Int) < b) = false := by simp; omega
      go_wp2
      go_end0
      exact ⟨rfl, HS.out⟩
end

end Go.Proofs.Ytdkknlnlfaoapaa
