/- Sorting what is almost sorted: the row holds the same tiles in some order. No condition but the bounds. (The walk's lines by a program of mine.) -/
import Derived.Test.YtdkknlnlfaoapaaSortI
namespace Go.Proofs.Ytdkknlnlfaoapaa
open Go.ChangeShapes Go.WideShapes Go.ChangeAt Go.RowKit

section
variable {g bx n cap : Nat} {ts : List T3} {tail : List Value}
set_option maxRecDepth 8000 in
set_option maxHeartbeats 3200000 in
theorem partial_any (a b : Nat) (W : World) (h : Sl g bx n cap ts tail W) (hab : a + 12 < b) (hb : b ≤ n) (hn : n ≤ 1048576) :
    Calls Try.prog 48 #[.agg #[(.func (.func 22) #[] #[.pointer (some ⟨bx, 0, none⟩)]), (.func (.func 40) #[] #[.slice (some ⟨g, 0, none⟩) n cap, typeHandle Try.prog 28])], .int .i64 a, .int .i64 b] W fun e w' => SaysB e ∧ Srt g bx n cap ts tail W w' := by
  have S0 := Lib.hid (SB.start h); clear h
  go_enter Try.func48, Try.ntmps48
  go_wp2
  go_loopg [7, 8] 5 (fun r vi vs wr => ∃ i s : Nat, r = 5 - s ∧ vi = .int .i64 (i : Nat) ∧ vs = .int .i64 (s : Nat) ∧ a < i ∧ i ≤ b ∧ SB g bx n cap ts tail W wr)
  case atStart => exact ⟨a + 1, 0, rfl, by go_num, rfl, by omega, by omega, S0.out⟩
  case round =>
    clear S0
    obtain ⟨i, s, rfl, rfl, rfl, hai, hib, hS⟩ := hrel
    have HS := Lib.hid hS; clear hS
    by_cases hs : s < 5
    · have e5 : decide ((s : Int) < 5) = true := by simp; omega
      have e5' : decide (s < 5) = true := by simp; omega
      go_wp2
      go_loopg [7] (b - i) (fun r vi wr => ∃ k : Nat, r = b - k ∧ vi = .int .i64 (k : Nat) ∧ i ≤ k ∧ k ≤ b ∧ SB g bx n cap ts tail W wr)
      case atStart => exact ⟨i, rfl, rfl, by omega, by omega, HS.out⟩
      case round =>
        clear HS
        obtain ⟨k, rfl, rfl, hik, hkb, hS⟩ := hrel
        have HS := Lib.hid hS; clear hS
        have C2 := HS.out.cell
        by_cases hk : k < b
        · have ek : decide ((k : Int) < b) = true := by simp; omega
          have ek' : decide (k < b) = true := by simp; omega
          obtain ⟨q, rfl⟩ : ∃ q, k = q + 1 := ⟨k - 1, by omega⟩
          rw [Int.natCast_add, Int.natCast_one] at ek
          go_wp2_with fail
          refine (less_at _ HS.out.srt.sl _ _ (q + 1) q (by omega) (by omega) (by omega) (by omega)).mono ?_
          rintro e w3 ⟨⟨bb, rfl⟩, hx3⟩
          have H3 := Lib.hid (HS.out.ext hx3)
          clear hx3 C2 HS
          have C3 := H3.out.cell
          rcases bb with _ | _
          · go_wp2
            go_roundg (b - (q + 1 + 1))
            case measure => omega
            case rel => exact ⟨q + 1 + 1, rfl, by go_num, by omega, by omega, H3.out⟩
          · have fe : ((q : Int) + 1 == b) = false := by simp; omega
            by_cases h50 : b < a + 50
            · have f50 : decide ((b : Int) - a < 50) = true := by simp; omega
              go_wp2
              go_ret
              exact ⟨⟨_, rfl⟩, H3.out.srt⟩
            · have f50 : decide ((b : Int) - a < 50) = false := by simp; omega
              obtain ⟨w4, hsw, hs4⟩ := swap_at _ H3.out.srt.sl ((q : Int) + 1) (q : Int) (q + 1) q (by omega) (by omega) (by omega) (by omega)
              have H4 := Lib.hid (H3.out.swap hs4); clear hs4
              have C4 := H4.out.cell
              by_cases hka : a + 2 ≤ q + 1
              · have fa : decide ((q : Int) + 1 - a ≥ 2) = true := by simp; omega
                have fa' : decide ((2 : Int) ≤ (q : Int) + 1 - a) = true := by simp; omega
                go_wp2
                go_loopg [9] q (fun r vj wr => ∃ j : Nat, j = r ∧ vj = .int .i64 (j : Nat) ∧ j ≤ q ∧ SB g bx n cap ts tail W wr)
                case atStart => exact ⟨q, rfl, by go_num, by omega, H4.out⟩
                case round =>
                  clear H4 C4 hsw
                  obtain ⟨j, rfl, rfl, hjq, hS⟩ := hrel
                  have HD := Lib.hid hS; clear hS
                  have CD := HD.out.cell
                  by_cases hj : 1 ≤ j
                  · have fj : decide ((j : Int) ≥ 1) = true := by simp; omega
                    have fj' : decide ((1 : Int) ≤ j) = true := by simp; omega
                    obtain ⟨l, rfl⟩ : ∃ l, j = l + 1 := ⟨j - 1, by omega⟩
                    rw [Int.natCast_add, Int.natCast_one] at fj fj'
                    go_wp2_with fail
                    refine (less_at _ HD.out.srt.sl _ _ (l + 1) l (by omega) (by omega) (by omega) (by omega)).mono ?_
                    rintro e w5 ⟨⟨bb, rfl⟩, hx5⟩
                    have H5 := Lib.hid (HD.out.ext hx5)
                    clear hx5 CD HD
                    have C5 := H5.out.cell
                    rcases bb with _ | _
                    · by_cases hbk : q + 1 + 2 ≤ b
                      · have fb : decide ((b : Int) - ((q : Int) + 1) ≥ 2) = true := by simp; omega
                        have fb' : decide ((2 : Int) ≤ (b : Int) - ((q : Int) + 1)) = true := by simp; omega
                        go_wp2
                        go_loopg [10] (b - (q + 1 + 1)) (fun r vj wr => ∃ u : Nat, r = b - u ∧ vj = .int .i64 (u : Nat) ∧ q + 1 < u ∧ u ≤ b ∧ SB g bx n cap ts tail W wr)
                        case atStart => exact ⟨q + 1 + 1, rfl, by go_num, by omega, by omega, H5.out⟩
                        case round =>
                          clear H5
                          obtain ⟨u, rfl, rfl, hqu, hub, hS⟩ := hrel
                          have HU := Lib.hid hS; clear hS
                          have CU := HU.out.cell
                          by_cases hu : u < b
                          · have fu : decide ((u : Int) < b) = true := by simp; omega
                            have fu' : decide (u < b) = true := by simp; omega
                            obtain ⟨v, rfl⟩ : ∃ v, u = v + 1 := ⟨u - 1, by omega⟩
                            rw [Int.natCast_add, Int.natCast_one] at fu
                            go_wp2_with fail
                            refine (less_at _ HU.out.srt.sl _ _ (v + 1) v (by omega) (by omega) (by omega) (by omega)).mono ?_
                            rintro e w7 ⟨⟨bb, rfl⟩, hx7⟩
                            have H7 := Lib.hid (HU.out.ext hx7)
                            clear hx7 CU HU
                            have C7 := H7.out.cell
                            rcases bb with _ | _
                            · go_wp2
                              go_roundg (5 - (s + 1))
                              case measure => omega
                              case rel => exact ⟨q + 1, s + 1, rfl, by go_num, by go_num, by omega, by omega, H7.out⟩
                            · obtain ⟨w8, hsw8, hs8⟩ := swap_at _ H7.out.srt.sl ((v : Int) + 1) (v : Int) (v + 1) v (by omega) (by omega) (by omega) (by omega)
                              have H8 := Lib.hid (H7.out.swap hs8); clear hs8
                              go_wp2
                              go_roundg (b - (v + 1 + 1))
                              case measure => omega
                              case rel => exact ⟨v + 1 + 1, rfl, by go_num, by omega, by omega, H8.out⟩
                          · have fu : decide ((u : Int) < b) = false := by simp; omega
                            have fu' : decide (u < b) = false := by simp; omega
                            go_wp2
                            go_roundg (5 - (s + 1))
                            case measure => omega
                            case rel => exact ⟨q + 1, s + 1, rfl, by go_num, by go_num, by omega, by omega, HU.out⟩
                      · have fb : decide ((b : Int) - ((q : Int) + 1) ≥ 2) = false := by simp; omega
                        have fb' : decide ((2 : Int) ≤ (b : Int) - ((q : Int) + 1)) = false := by simp; omega
                        go_wp2
                        go_roundg (5 - (s + 1))
                        case measure => omega
                        case rel => exact ⟨q + 1, s + 1, rfl, by go_num, by go_num, by omega, by omega, H5.out⟩
                    · obtain ⟨w6, hsw6, hs6⟩ := swap_at _ H5.out.srt.sl ((l : Int) + 1) (l : Int) (l + 1) l (by omega) (by omega) (by omega) (by omega)
                      have H6 := Lib.hid (H5.out.swap hs6); clear hs6
                      go_wp2
                      go_roundg l
                      case measure => omega
                      case rel => exact ⟨l, rfl, by go_num, by omega, H6.out⟩
                  · obtain rfl : j = 0 := by omega
                    by_cases hbk : q + 1 + 2 ≤ b
                    · have fb : decide ((b : Int) - ((q : Int) + 1) ≥ 2) = true := by simp; omega
                      have fb' : decide ((2 : Int) ≤ (b : Int) - ((q : Int) + 1)) = true := by simp; omega
                      go_wp2
                      go_loopg [10] (b - (q + 1 + 1)) (fun r vj wr => ∃ u : Nat, r = b - u ∧ vj = .int .i64 (u : Nat) ∧ q + 1 < u ∧ u ≤ b ∧ SB g bx n cap ts tail W wr)
                      case atStart => exact ⟨q + 1 + 1, rfl, by go_num, by omega, by omega, HD.out⟩
                      case round =>
                        clear HD
                        obtain ⟨u, rfl, rfl, hqu, hub, hS⟩ := hrel
                        have HU := Lib.hid hS; clear hS
                        have CU := HU.out.cell
                        by_cases hu : u < b
                        · have fu : decide ((u : Int) < b) = true := by simp; omega
                          have fu' : decide (u < b) = true := by simp; omega
                          obtain ⟨v, rfl⟩ : ∃ v, u = v + 1 := ⟨u - 1, by omega⟩
                          rw [Int.natCast_add, Int.natCast_one] at fu
                          go_wp2_with fail
                          refine (less_at _ HU.out.srt.sl _ _ (v + 1) v (by omega) (by omega) (by omega) (by omega)).mono ?_
                          rintro e w7 ⟨⟨bb, rfl⟩, hx7⟩
                          have H7 := Lib.hid (HU.out.ext hx7)
                          clear hx7 CU HU
                          have C7 := H7.out.cell
                          rcases bb with _ | _
                          · go_wp2
                            go_roundg (5 - (s + 1))
                            case measure => omega
                            case rel => exact ⟨q + 1, s + 1, rfl, by go_num, by go_num, by omega, by omega, H7.out⟩
                          · obtain ⟨w8, hsw8, hs8⟩ := swap_at _ H7.out.srt.sl ((v : Int) + 1) (v : Int) (v + 1) v (by omega) (by omega) (by omega) (by omega)
                            have H8 := Lib.hid (H7.out.swap hs8); clear hs8
                            go_wp2
                            go_roundg (b - (v + 1 + 1))
                            case measure => omega
                            case rel => exact ⟨v + 1 + 1, rfl, by go_num, by omega, by omega, H8.out⟩
                        · have fu : decide ((u : Int) < b) = false := by simp; omega
                          have fu' : decide (u < b) = false := by simp; omega
                          go_wp2
                          go_roundg (5 - (s + 1))
                          case measure => omega
                          case rel => exact ⟨q + 1, s + 1, rfl, by go_num, by go_num, by omega, by omega, HU.out⟩
                    · have fb : decide ((b : Int) - ((q : Int) + 1) ≥ 2) = false := by simp; omega
                      have fb' : decide ((2 : Int) ≤ (b : Int) - ((q : Int) + 1)) = false := by simp; omega
                      go_wp2
                      go_roundg (5 - (s + 1))
                      case measure => omega
                      case rel => exact ⟨q + 1, s + 1, rfl, by go_num, by go_num, by omega, by omega, HD.out⟩
              · have fa : decide ((q : Int) + 1 - a ≥ 2) = false := by simp; omega
                have fa' : decide ((2 : Int) ≤ (q : Int) + 1 - a) = false := by simp; omega
                have hbk : q + 1 + 2 ≤ b := by omega
                have fb : decide ((b : Int) - ((q : Int) + 1) ≥ 2) = true := by simp; omega
                have fb' : decide ((2 : Int) ≤ (b : Int) - ((q : Int) + 1)) = true := by simp; omega
                go_wp2
                go_loopg [10] (b - (q + 1 + 1)) (fun r vj wr => ∃ u : Nat, r = b - u ∧ vj = .int .i64 (u : Nat) ∧ q + 1 < u ∧ u ≤ b ∧ SB g bx n cap ts tail W wr)
                case atStart => exact ⟨q + 1 + 1, rfl, by go_num, by omega, by omega, H4.out⟩
                case round =>
                  clear H4
                  obtain ⟨u, rfl, rfl, hqu, hub, hS⟩ := hrel
                  have HU := Lib.hid hS; clear hS
                  have CU := HU.out.cell
                  by_cases hu : u < b
                  · have fu : decide ((u : Int) < b) = true := by simp; omega
                    have fu' : decide (u < b) = true := by simp; omega
                    obtain ⟨v, rfl⟩ : ∃ v, u = v + 1 := ⟨u - 1, by omega⟩
                    rw [Int.natCast_add, Int.natCast_one] at fu
                    go_wp2_with fail
                    refine (less_at _ HU.out.srt.sl _ _ (v + 1) v (by omega) (by omega) (by omega) (by omega)).mono ?_
                    rintro e w7 ⟨⟨bb, rfl⟩, hx7⟩
                    have H7 := Lib.hid (HU.out.ext hx7)
                    clear hx7 CU HU
                    have C7 := H7.out.cell
                    rcases bb with _ | _
                    · go_wp2
                      go_roundg (5 - (s + 1))
                      case measure => omega
                      case rel => exact ⟨q + 1, s + 1, rfl, by go_num, by go_num, by omega, by omega, H7.out⟩
                    · obtain ⟨w8, hsw8, hs8⟩ := swap_at _ H7.out.srt.sl ((v : Int) + 1) (v : Int) (v + 1) v (by omega) (by omega) (by omega) (by omega)
                      have H8 := Lib.hid (H7.out.swap hs8); clear hs8
                      go_wp2
                      go_roundg (b - (v + 1 + 1))
                      case measure => omega
                      case rel => exact ⟨v + 1 + 1, rfl, by go_num, by omega, by omega, H8.out⟩
                  · have fu : decide ((u : Int) < b) = false := by simp; omega
                    have fu' : decide (u < b) = false := by simp; omega
                    go_wp2
                    go_roundg (5 - (s + 1))
                    case measure => omega
                    case rel => exact ⟨q + 1, s + 1, rfl, by go_num, by go_num, by omega, by omega, HU.out⟩
        · obtain rfl : k = b := by omega
          go_wp2
          go_ret
          exact ⟨⟨_, rfl⟩, HS.out.srt⟩
    · go_wp2
      go_ret
      exact ⟨⟨_, rfl⟩, HS.out.srt⟩
end

end Go.Proofs.Ytdkknlnlfaoapaa
