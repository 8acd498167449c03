/- The sort, whole, and sort.Slice: the row holds the same tiles in some order. No condition but the bounds. -/
import Derived.Deep.Cut
import Derived.Test.YtdkknlnlfaoapaaSortE
import Derived.Test.YtdkknlnlfaoapaaSortJ
import Derived.Test.YtdkknlnlfaoapaaSortK
import Derived.Test.YtdkknlnlfaoapaaSortL
import Derived.Test.YtdkknlnlfaoapaaSortM
namespace Go.Proofs.Ytdkknlnlfaoapaa
open Go.ChangeShapes Go.WideShapes Go.ChangeAt Go.RowKit

section
variable {g bx n cap : Nat} {ts : List T3} {tail : List Value}
set_option maxHeartbeats 12800000 in
set_option maxRecDepth 1000000 in
theorem pdq_any (hn : n ≤ 1048576) : ∀ (N a b lim : Nat) (W : World), b - a < N → Sl g bx n cap ts tail W → a ≤ b → b ≤ n → lim ≤ 64 →
    Calls Try.prog 30 #[.agg #[(.func (.func 22) #[] #[.pointer (some ⟨bx, 0, none⟩)]), (.func (.func 40) #[] #[.slice (some ⟨g, 0, none⟩) n cap, typeHandle Try.prog 28])], .int .i64 a, .int .i64 b, .int .i64 lim] W fun e w' => e = .returned (.tuple #[]) ∧ Srt g bx n cap ts tail W w' := by
  intro N
  induction N with
  | zero => intro _ _ _ _ h; exact absurd h (Nat.not_lt_zero _)
  | succ N ih =>
    intro a b lim W hN h hab hb hlim
    have S0 := Lib.hid (SB.start h); clear h
    have ih := Lib.hid ih
    go_enter Try.func30, Try.ntmps30
    go_wp2
    go_loopg [1, 2, 3, 8, 9] (b - a) (fun r s1 s2 s3 s8 s9 wr => ∃ (a' b' l : Nat) (wb wp : Bool), r = b' - a' ∧ s1 = .int .i64 (a' : Nat) ∧ s2 = .int .i64 (b' : Nat) ∧ s3 = .int .i64 (l : Nat) ∧ s8 = .bool wb ∧ s9 = .bool wp ∧
      a' ≤ b' ∧ b' ≤ n ∧ b' - a' ≤ b - a ∧ l ≤ 64 ∧ SB g bx n cap ts tail W wr)
    case atStart => exact ⟨a, b, lim, true, true, rfl, rfl, rfl, rfl, rfl, rfl, hab, hb, Nat.le_refl _, hlim, S0.out⟩
    case round =>
      clear S0
      obtain ⟨a', b', l, wb, wp, rfl, rfl, rfl, rfl, rfl, rfl, hab', hb', hk, hl, hS⟩ := hrel
      have HS := Lib.hid hS; clear hS
      have C2 := HS.out.cell
      by_cases h12 : b' ≤ a' + 12
      · go_wp2_with fail
        refine (insertion_any a' b' _ HS.out.srt.sl hab' hb' hn).mono ?_
        rintro e w1 ⟨rfl, hs⟩
        have hs := Lib.hid hs
        go_wp2
        exact bodyPost_ret (v := .tuple #[]) (by simp [results, Try.results30, go_sem]) rfl ⟨rfl, (HS.out.trans hs.out).srt⟩
      · by_cases hl0 : l = 0
        · subst hl0
          go_wp2_with fail
          refine (heapsort_any a' b' _ HS.out.srt.sl (by omega) hb' hn).mono ?_
          rintro e w1 ⟨rfl, hs⟩
          have hs := Lib.hid hs
          go_wp2
          exact bodyPost_ret (v := .tuple #[]) (by simp [results, Try.results30, go_sem]) rfl ⟨rfl, (HS.out.trans hs.out).srt⟩
        · go_upto_if 35 with fail
          go_cut [3] from 19 (fun s3 wc => ∃ l : Nat, s3 = .int .i64 (l : Nat) ∧ l ≤ 64 ∧ SB g bx n cap ts tail W wc)
          case first =>
            cases wb
            · obtain ⟨L, rfl⟩ : ∃ L, b' = a' + L := ⟨b' - a', by omega⟩
              go_wp2_with fail
              refine (break_any a' L _ HS.out.srt.sl (by omega) hb' hn).mono ?_
              rintro e w1 ⟨rfl, hs⟩
              have hs := Lib.hid hs
              go_wp2
              go_meet
              case rel => exact ⟨l - 1, congrArg (Value.int .i64) (by omega), by omega, HS.out.trans hs.out⟩
            · go_wp2_with fail
              go_meet
              case rel => exact ⟨l, rfl, hl, HS.out⟩
          case rest =>
            clear HS C2
            obtain ⟨l2, rfl, hl2, hS⟩ := hcut
            have HS := Lib.hid hS; clear hS
            have C2 := HS.out.cell
            go_upto_if 50 with (go_at_call 46; refine (pivot_any a' b' _ HS.out.srt.sl (by omega) hb' hn).mono ?_; rintro e w2 ⟨⟨u, hint, rfl, hau, hub⟩, hs⟩)
            have H2 := Lib.hid (HS.out.trans hs); clear hs HS C2
            have C2 := H2.out.cell
            go_cut [11, 12] from 19 (fun s11 s12 wc => ∃ (u : Nat) (hint : Int), s11 = .int .i64 (u : Nat) ∧ s12 = .int .i64 hint ∧ a' ≤ u ∧ u < b' ∧ SB g bx n cap ts tail W wc)
            case first =>
              by_cases hh : hint = 2
              · subst hh
                go_wp2_with fail
                refine (reverse_any a' b' _ H2.out.srt.sl (by omega) hb' hn).mono ?_
                rintro e w3 ⟨rfl, hs⟩
                have hs := Lib.hid hs
                go_wp2
                go_meet
                case rel => exact ⟨b' - 1 - (u - a'), 1, congrArg (Value.int .i64) (by omega), rfl, by omega, by omega, H2.out.trans hs.out⟩
              · go_wp2_with fail
                go_meet
                case rel => exact ⟨u, hint, rfl, rfl, hau, hub, H2.out⟩
            case rest =>
              clear H2 C2
              obtain ⟨u2, hint2, rfl, rfl, hau2, hub2, hS⟩ := hcut
              have HS := Lib.hid hS; clear hS
              have C2 := HS.out.cell
              go_upto_region 16 with fail
              go_cut [12, 68] from 19 (fun s12 s68 wx => ∃ (hint : Int) (t : Bool), s12 = .int .i64 hint ∧ s68 = .bool t ∧ wx = wc)
              case first =>
                by_cases hh : hint2 = 1 <;> cases wb <;> cases wp <;>
                  (go_wp2_with fail
                   go_meet
                   exact ⟨_, _, rfl, rfl, rfl⟩)
              case rest =>
                obtain ⟨hint3, t, rfl, rfl, rfl⟩ := hcut
                go_upto_if 68 with fail
                go_cut [] from 19 (fun wx => SB g bx n cap ts tail W wx)
                case first =>
                  cases t
                  · go_wp2_with fail
                    go_meet
                    case rel => exact HS.out
                  · go_wp2_with fail
                    refine (partial_any a' b' _ HS.out.srt.sl (by omega) hb' hn).mono ?_
                    rintro e w4 ⟨⟨bb, rfl⟩, hs⟩
                    have H4 := Lib.hid (HS.out.trans hs); clear hs
                    cases bb
                    · go_wp2
                      go_meet
                      case rel => exact H4.out
                    · go_wp2
                      exact bodyPost_ret (v := .tuple #[]) (by simp [results, Try.results30, go_sem]) rfl ⟨rfl, H4.out.srt⟩
                case rest =>
                  clear HS C2
                  have HS := Lib.hid hcut; clear hcut
                  have C2 := HS.out.cell
                  go_upto_region 18 with fail
                  go_cut [83] from 19 (fun s83 wx => ∃ t : Bool, s83 = .bool t ∧ SB g bx n cap ts tail W wx)
                  case first =>
                    rcases Nat.eq_zero_or_pos a' with rfl | ha0
                    · go_wp2_with fail
                      go_meet
                      case rel => exact ⟨_, rfl, HS.out⟩
                    · obtain ⟨q, rfl⟩ : ∃ q, a' = q + 1 := ⟨a' - 1, by omega⟩
                      go_wp2_with fail
                      refine (less_at _ HS.out.srt.sl _ _ q u2 (by omega) (by omega) (by omega) (by omega)).mono ?_
                      rintro e w5 ⟨⟨bb, rfl⟩, hx5⟩
                      have H5 := Lib.hid (HS.out.ext hx5); clear hx5
                      cases bb <;>
                        (go_wp2
                         go_meet
                         exact ⟨_, rfl, H5.out⟩)
                  case rest =>
                    clear HS C2
                    obtain ⟨t2, rfl, hS⟩ := hcut
                    have HS := Lib.hid hS; clear hS
                    have C2 := HS.out.cell
                    cases t2
                    · go_upto_if 109 with (go_at_call 50; refine (partition_any a' b' u2 _ HS.out.srt.sl hau2 hub2 hb' hn).mono ?_; rintro e w7 ⟨⟨mid, ap, rfl, hm1, hm2⟩, hs⟩)
                      have H7 := Lib.hid (HS.out.trans hs); clear hs HS C2
                      have C7 := H7.out.cell
                      by_cases h4 : mid - a' < b' - mid
                      · go_wp2_with fail
                        refine (ih.out a' mid l2 _ (by omega) H7.out.srt.sl hm1 (by omega) hl2).mono ?_
                        rintro e w8 ⟨rfl, hs⟩
                        have H8 := Lib.hid (H7.out.trans hs); clear hs
                        go_wp2
                        go_roundg (b' - (mid + 1))
                        case measure => omega
                        case rel => exact ⟨mid + 1, b', l2, _, ap, rfl, by go_num, rfl, rfl, rfl, rfl, by omega, by omega, by omega, hl2, H8.out⟩
                      · have hih := ih.out (mid + 1) b' l2 w7 (by omega) H7.out.srt.sl (by omega) (by omega) hl2
                        rw [show ((mid + 1 : Nat) : Int) = (mid : Int) + 1 by omega] at hih
                        go_wp2_with fail
                        refine hih.mono ?_
                        rintro e w8 ⟨rfl, hs⟩
                        have H8 := Lib.hid (H7.out.trans hs); clear hs
                        go_wp2
                        go_roundg (mid - a')
                        case measure => omega
                        case rel => exact ⟨a', mid, l2, _, ap, rfl, rfl, rfl, rfl, rfl, rfl, by omega, by omega, by omega, hl2, H8.out⟩
                    · go_wp2_with fail
                      refine (parteq_any a' b' u2 _ HS.out.srt.sl hau2 hub2 hb' hn).mono ?_
                      rintro e w7 ⟨⟨mid, rfl, hm1, hm2⟩, hs⟩
                      have H7 := Lib.hid (HS.out.trans hs); clear hs HS C2
                      go_wp2
                      go_roundg (b' - mid)
                      case measure => omega
                      case rel => exact ⟨mid, b', l2, wb, wp, rfl, rfl, rfl, rfl, rfl, rfl, by omega, by omega, by omega, hl2, H7.out⟩
end

end Go.Proofs.Ytdkknlnlfaoapaa
