/- Parting a range by a pivot: the row holds the same tiles in some order. No condition but the bounds. -/
import Derived.Test.YtdkknlnlfaoapaaSortI
namespace Go.Proofs.Ytdkknlnlfaoapaa
open Go.ChangeShapes Go.WideShapes Go.ChangeAt Go.RowKit

section
variable {g bx n cap : Nat} {ts : List T3} {tail : List Value}
set_option maxRecDepth 8000 in
set_option maxHeartbeats 1600000 in
theorem parteq_any (a b p : Nat) (W : World) (h : Sl g bx n cap ts tail W) (hap : a ≤ p) (hpb : p < b) (hb : b ≤ n) (hn : n ≤ 1048576) :
    Calls Try.prog 49 #[.agg #[(.func (.func 22) #[] #[.pointer (some ⟨bx, 0, none⟩)]), (.func (.func 40) #[] #[.slice (some ⟨g, 0, none⟩) n cap, typeHandle Try.prog 28])], .int .i64 a, .int .i64 b, .int .i64 p] W fun e w' => (∃ m : Nat, e = .returned (.int .i64 m) ∧ a < m ∧ m ≤ b) ∧ Srt g bx n cap ts tail W w' := by
  have S0 := Lib.hid (SB.start h); clear h
  obtain ⟨w1, hsw, hs1⟩ := swap_at _ S0.out.srt.sl (a : Int) (p : Int) a p rfl rfl (by omega) (by omega)
  have S1 := Lib.hid (S0.out.swap hs1); clear hs1
  go_enter Try.func49, Try.ntmps49
  go_wp2
  go_loopg [9, 10] (b - 1 + 1 - (a + 1)) (fun r vi vj wr => ∃ i j : Nat, r = j + 1 - i ∧ vi = .int .i64 (i : Nat) ∧ vj = .int .i64 (j : Nat) ∧ a < i ∧ i ≤ b ∧ j < b ∧ SB g bx n cap ts tail W wr)
  case atStart => exact ⟨a + 1, b - 1, rfl, by go_num, congrArg (Value.int .i64) (by omega), by omega, by omega, by omega, S1.out⟩
  case round =>
    obtain ⟨i, j, rfl, rfl, rfl, hai, hib, hjb, hS⟩ := hrel
    have HS := Lib.hid hS; clear hS hsw S1
    go_wp2
    go_loopg [9] (j + 1 - i) (fun r vi wr => ∃ k : Nat, r = j + 1 - k ∧ vi = .int .i64 (k : Nat) ∧ i ≤ k ∧ k ≤ b ∧ SB g bx n cap ts tail W wr)
    case atStart => exact ⟨i, rfl, rfl, by omega, by omega, HS.out⟩
    case round =>
      clear HS
      obtain ⟨k, rfl, rfl, hik, hkb, hS⟩ := hrel
      have HS := Lib.hid hS; clear hS
      have C2 := HS.out.cell
      by_cases hle : k ≤ j
      · have hl : decide ((k : Int) ≤ j) = true := by simp; omega
        have hl' : decide (k ≤ j) = true := by simp; omega
        go_wp2_with fail
        refine (less_at _ HS.out.srt.sl _ _ a k (by omega) (by omega) (by omega) (by omega)).mono ?_
        rintro e w3 ⟨⟨bb, rfl⟩, hx3⟩
        have H3 := Lib.hid (HS.out.ext hx3)
        clear hx3 C2 HS
        have C3 := H3.out.cell
        rcases bb with _ | _
        · go_wp2
          go_roundg (j + 1 - (k + 1))
          case measure => omega
          case rel => exact ⟨k + 1, rfl, by go_num, by omega, by omega, H3.out⟩
        · go_wp2
          go_loopg [10] (j + 1 - k) (fun r vj wr => ∃ l : Nat, r = l + 1 - k ∧ vj = .int .i64 (l : Nat) ∧ l ≤ j ∧ SB g bx n cap ts tail W wr)
          case atStart => exact ⟨j, rfl, rfl, by omega, H3.out⟩
          case round =>
            clear H3 C3
            obtain ⟨l, rfl, rfl, hlj, hS⟩ := hrel
            have HS := Lib.hid hS; clear hS
            have C2 := HS.out.cell
            by_cases hle2 : k ≤ l
            · have hm : decide ((k : Int) ≤ l) = true := by simp; omega
              have hm' : decide (k ≤ l) = true := by simp; omega
              obtain ⟨q, rfl⟩ : ∃ q, l = q + 1 := ⟨l - 1, by omega⟩
              go_wp2_with fail
              refine (less_at _ HS.out.srt.sl _ _ a (q + 1) (by omega) (by omega) (by omega) (by omega)).mono ?_
              rintro e w4 ⟨⟨bb, rfl⟩, hx4⟩
              have H4 := Lib.hid (HS.out.ext hx4)
              clear hx4 C2 HS
              have C4 := H4.out.cell
              rcases bb with _ | _
              · obtain ⟨w5, hsw, hs5⟩ := swap_at _ H4.out.srt.sl (k : Int) ((q : Int) + 1) k (q + 1) rfl (by omega) (by omega) (by omega)
                have H5 := Lib.hid (H4.out.swap hs5); clear hs5
                go_wp2
                go_roundg (q + 1 - (k + 1))
                case measure => omega
                case rel => exact ⟨k + 1, q, rfl, by go_num, by go_num, by omega, by omega, by omega, H5.out⟩
              · go_wp2
                go_roundg (q + 1 - k)
                case measure => omega
                case rel => exact ⟨q, rfl, by go_num, by omega, H4.out⟩
            · have hm : decide ((k : Int) ≤ l) = false := by simp; omega
              have hm' : decide (k ≤ l) = false := by simp; omega
              go_wp2
              go_ret
              exact ⟨⟨k, rfl, by omega, by omega⟩, HS.out.srt⟩
      · have hl : decide ((k : Int) ≤ j) = false := by simp; omega
        have hl' : decide (k ≤ j) = false := by simp; omega
        go_wp2
        go_loopg [10] 0 (fun r vj wr => vj = .int .i64 (j : Nat) ∧ SB g bx n cap ts tail W wr)
        case atStart => exact ⟨rfl, HS.out⟩
        case round =>
          clear HS C2
          obtain ⟨rfl, hS⟩ := hrel
          have HS := Lib.hid hS; clear hS
          have C2 := HS.out.cell
          go_wp2
          go_ret
          exact ⟨⟨k, rfl, by omega, by omega⟩, HS.out.srt⟩
end

end Go.Proofs.Ytdkknlnlfaoapaa
