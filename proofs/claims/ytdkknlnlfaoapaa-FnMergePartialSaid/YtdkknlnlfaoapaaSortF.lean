/- Turning a range round; the small helpers of choosing a pivot. No condition but the bounds. -/
import Derived.Test.YtdkknlnlfaoapaaSortD
namespace Go.Proofs.Ytdkknlnlfaoapaa
open Go.ChangeShapes Go.WideShapes Go.ChangeAt Go.RowKit

section
variable {g bx n cap : Nat} {ts : List T3} {tail : List Value}
set_option maxRecDepth 8000 in
set_option maxHeartbeats 1600000 in
theorem reverse_any (a b : Nat) (W : World) (h : Sl g bx n cap ts tail W) (hab : a < b) (hb : b ≤ n) (hn : n ≤ 1048576) :
    Calls Try.prog 47 #[.agg #[(.func (.func 22) #[] #[.pointer (some ⟨bx, 0, none⟩)]), (.func (.func 40) #[] #[.slice (some ⟨g, 0, none⟩) n cap, typeHandle Try.prog 28])], .int .i64 a, .int .i64 b] W fun e w' => e = .returned (.tuple #[]) ∧ Srt g bx n cap ts tail W w' := by
  have H0 := Lib.hid h; clear h
  have hg : g < W.heap.size := by obtain ⟨d, _, hd⟩ := H0.out.row; exact (Array.getElem?_eq_some_iff.1 hd).1
  have D0 := Lib.hid (blk_new W (.cells #[(.func (.func 22) #[] #[.pointer (some ⟨bx, 0, none⟩)]), (.func (.func 40) #[] #[.slice (some ⟨g, 0, none⟩) n cap, typeHandle Try.prog 28])] 69))
  go_enter Try.func47, Try.ntmps47
  go_wp2
  go_loopg [6, 7] (b - a) (fun r vi vj wr => ∃ i j : Nat, r = j + 1 - i ∧ vi = .int .i64 (i : Nat) ∧ vj = .int .i64 (j : Nat) ∧ i ≤ n ∧ j < b ∧ Srt g bx n cap ts tail W wr ∧ wr.heap[W.heap.size]? = some (.cells #[(.func (.func 22) #[] #[.pointer (some ⟨bx, 0, none⟩)]), (.func (.func 40) #[] #[.slice (some ⟨g, 0, none⟩) n cap, typeHandle Try.prog 28])] 69 (0, 0)))
  case atStart => exact ⟨a, b - 1, by omega, rfl, congrArg (Value.int .i64) (by omega), by omega, by omega, ⟨H0.out.ext ((Ext.refl _).alloc _), (Keep.refl g W).ext ((Ext.refl _).alloc _)⟩, D0.out⟩
  case round =>
    obtain ⟨i, j, rfl, rfl, rfl, hi, hj, hS, hD⟩ := hrel
    have HS := Lib.hid hS; have HD := Lib.hid hD; clear hS hD
    have C2 := cell_of_blk HD.out
    by_cases hlt : i < j
    · have hl : decide ((i : Int) < j) = true := by simp; omega
      obtain ⟨w5, hsw, hs5⟩ := swap_at wr HS.out.sl (i : Int) (j : Int) i j rfl rfl (by omega) (by omega)
      have hs5 := Lib.hid hs5
      have hb5 := Lib.hid ((hs5.out.2.block _ (Array.getElem?_eq_some_iff.1 HD.out).1 (by omega)).trans HD.out)
      have C5 := cell_of_blk hb5.out
      go_wp2
      go_roundg (j - 1 + 1 - (i + 1))
      case measure => omega
      case rel => exact ⟨i + 1, j - 1, rfl, by go_num, congrArg (Value.int .i64) (by omega), by omega, by omega, HS.out.swap hs5.out, hb5.out⟩
    · have hl : decide ((i : Int) < j) = false := by simp; omega
      go_wp2
      go_end0
      exact ⟨rfl, HS.out⟩

set_option maxRecDepth 8000 in
set_option maxHeartbeats 1600000 in
theorem order2_any (x y p : Nat) (W : World) (s : Nat) (h : Sl g bx n cap ts tail W) (hx : x < n) (hy : y < n) (hn : n ≤ 1048576) (hp : W.heap[p]? = some (.cells #[.int .i64 s] 3 (0, 0))) (hs : s ≤ 1000) :
    Calls Try.prog 56 #[.agg #[(.func (.func 22) #[] #[.pointer (some ⟨bx, 0, none⟩)]), (.func (.func 40) #[] #[.slice (some ⟨g, 0, none⟩) n cap, typeHandle Try.prog 28])], .int .i64 x, .int .i64 y, .pointer (some ⟨p, 0, none⟩)] W fun e w' => (∃ u v : Nat, e = .returned (.tuple #[.int .i64 u, .int .i64 v]) ∧ (u = x ∨ u = y) ∧ (v = x ∨ v = y)) ∧ Keep p W w' ∧
      ∃ t, t ≤ s + 1 ∧ w'.heap[p]? = some (.cells #[.int .i64 (t : Nat)] 3 (0, 0)) := by
  have H0 := Lib.hid h; clear h
  go_enter Try.func56, Try.ntmps56
  go_wp2_with fail
  refine (less_at _ (H0.out.ext ((Ext.refl _).alloc _)) _ _ y x (by omega) (by omega) hy hx).mono ?_
  rintro e w3 ⟨⟨bb, rfl⟩, hx3⟩
  have hp3 := Lib.hid (Ext.blk hx3 (blk_old hp (.cells #[(.func (.func 22) #[] #[.pointer (some ⟨bx, 0, none⟩)]), (.func (.func 40) #[] #[.slice (some ⟨g, 0, none⟩) n cap, typeHandle Try.prog 28])] 69)))
  have C3 := cell_of_blk hp3.out
  have F3 := free_of_blk hp3.out
  have hx3 := Lib.hid hx3
  rcases bb with _ | _
  · go_wp2
    exact bodyPost_ret (v := .tuple #[.int .i64 x, .int .i64 y]) (by simp [results, Try.results56, go_sem]) rfl
      ⟨⟨x, y, rfl, .inl rfl, .inr rfl⟩, ((Keep.refl p W).ext ((Ext.refl _).alloc _)).ext hx3.out, s, by omega, hp3.out⟩
  · go_wp2
    exact bodyPost_ret (v := .tuple #[.int .i64 y, .int .i64 x]) (by simp [results, Try.results56, go_sem]) rfl
      ⟨⟨y, x, rfl, .inr rfl, .inl rfl⟩, (((Keep.refl p W).ext ((Ext.refl _).alloc _)).ext hx3.out).trans ⟨rfl, rfl, rfl, by rw [size_setCell]; exact Nat.le_refl _, fun k _ hk => blk_setCell_ne hk _ _⟩, s + 1, by omega,
        by rw [blk_setCell hp3.out]; simp⟩
end

end Go.Proofs.Ytdkknlnlfaoapaa
