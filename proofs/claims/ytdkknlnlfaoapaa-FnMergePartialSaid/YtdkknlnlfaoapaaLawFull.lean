/- FnMergeFull answers true. No condition but the arguments' kinds. -/
import Derived.Test.YtdkknlnlfaoapaaMergeImpl
import Derived.Test.YtdkknlnlfaoapaaSTiles
import Derived.Test.YtdkknlnlfaoapaaTileB
namespace Go.Proofs.Ytdkknlnlfaoapaa
open Go.ChangeShapes Go.WideShapes Go.ChangeAt Go.RowKit

theorem Bytes.form {w : World} {v : Value} {zs : List Int} (h : Bytes w v zs) : ∃ a cap, v = .slice a zs.length cap ∧ zs.length ≤ maxLen := by
  obtain ⟨a, cap, rfl, h1, h2, _⟩ := h
  exact ⟨a, cap, rfl, Nat.le_trans h1 h2⟩
theorem valid_zero (w : World) : Calls Try.prog 9 #[.agg #[.int .i64 0, .int .i64 0, .int .i64 0]] w fun e w' => e = .returned (.bool true) ∧ Ext w w' := by
  have := valid_any 0 0 0 w (by omega) (by omega) (by omega) (by omega) (by omega) (by omega)
  simpa using this
theorem ite_iff_take {us qs : List T3} {i : Nat} {q : T3} (hq : qs[i]? = some q) : (∀ s ∈ qs.take (i + 1), s ∈ us) ↔ (∀ s ∈ qs.take i, s ∈ us) ∧ q ∈ us := by
  rw [List.take_add_one, hq]
  simp only [Option.toList_some, List.mem_append, List.mem_singleton]
  constructor
  · intro h; exact ⟨fun s hs => h s (.inl hs), h q (.inr rfl)⟩
  · rintro ⟨h1, h2⟩ s (hs | rfl)
    · exact h1 s hs
    · exact h2

set_option maxRecDepth 8000 in
set_option maxHeartbeats 3200000 in
theorem full_law (v : Value) (zs : List Int) (z least : Int) (w : World) (h : Bytes w v zs) (hz0 : 0 ≤ z) (hz1 : z ≤ 255) (hl0 : 0 ≤ least) (hl1 : least ≤ 255) :
    Calls Try.prog 4 #[v, .int .u8 z, .int .u8 least] w fun e w' => e = .returned (.bool true) ∧ Ext w w' := by
  obtain ⟨a, cap, rfl, hlen⟩ := h.form
  unfold maxLen at hlen
  obtain ⟨n, hn⟩ : ∃ n : Nat, z % 6 = n := ⟨(z % 6).toNat, by omega⟩
  have hn5 : n ≤ 5 := by omega
  have HT := Lib.hid (stiles_any _ zs z n w h hz0 hz1 hn)
  clear h hn
  by_cases hbig : 2147483647 < zs.length
  · have d1 : decide ((zs.length : Int) > 2147483647) = true := by simp; omega
    have d2 : decide ((2147483647 : Int) < zs.length) = true := by simp; omega
    have d3 : decide (2147483647 < zs.length) = true := by simp; omega
    go_enter Try.func4, Try.ntmps4
    go_wp2
    go_ret
    exact ⟨rfl, Ext.refl _⟩
  have d1 : decide ((zs.length : Int) > 2147483647) = false := by simp; omega
  have d2 : decide ((2147483647 : Int) < zs.length) = false := by simp; omega
  have d3 : decide (2147483647 < zs.length) = false := by simp; omega
  go_enter Try.func4, Try.ntmps4
  go_wp2_with fail
  refine HT.out.mono ?_
  rintro e w1 ⟨g, cap1, ts, rfl, hr, nd, hlev, hl, hx⟩
  have q0 : 0 ≤ least % ((n : Int) + 1) := Int.emod_nonneg _ (by omega)
  have q1 : least % ((n : Int) + 1) ≤ n := by have := Int.emod_lt_of_pos least (show (0 : Int) < (n : Int) + 1 by omega); omega
  obtain ⟨low, hlow⟩ : ∃ low : Nat, least % ((n : Int) + 1) = low := ⟨(least % ((n : Int) + 1)).toNat, by omega⟩
  have HM := Lib.hid (show ∀ x : Int, x = low → Calls Try.prog 7 #[.slice (some ⟨g, 0, none⟩) ts.length cap1, .int .i64 x] w1 (SetSays w1 (res 4 (fun t => decide (t ∈ ts)) (n - low))) from fun x hx => by
    subst hx; exact imerge_any g cap1 n low ts w1 hr nd hn5 (by omega) hlev)
  have HLOW := Lib.hid hlow
  have H0 := Lib.hid (show ∀ t : T3, decide (t ∈ ts) = true → t.2.2 = (n : Int) from fun t ht => (hlev t (by simpa using ht)).1)
  have hx1 := Lib.hid hx
  have hlown : low ≤ n := by omega
  clear hr nd hlev hl hx hlow HT d1 d2 d3 hlen hbig
  go_wp2_with fail
  refine (HM.out _ HLOW.out).mono ?_
  rintro e w2 ⟨g2, cap2, us, rfl, hr2, nd2, hmem, hlen2, hlev2, hx2⟩
  clear HM
  have HR := Lib.hid hr2; have HMEM := Lib.hid hmem; have HLEV := Lib.hid hlev2
  have X2 := Lib.hid (hx1.out.trans hx2)
  clear hr2 hmem hlev2 hx2 nd2 hx1
  have HV := Lib.hid valid_zero
  go_wp2_with fail
  go_loopg [35] us.length (fun r i wr => ∃ j : Nat, r + j = us.length ∧ i = .int .i64 (j : Nat) ∧ Ext w2 wr)
  case atStart => exact ⟨0, by omega, rfl, Ext.refl _⟩
  case round =>
    obtain ⟨j, hj, rfl, hwr⟩ := hrel
    by_cases hlt : j < us.length
    · have d1 : decide ((j : Int) < us.length) = true := by simp; omega
      have d2 : decide (j < us.length) = true := by simp; omega
      obtain ⟨⟨x, y, k⟩, ht⟩ : ∃ t, us[j]? = some t := ⟨_, List.getElem?_eq_getElem hlt⟩
      obtain ⟨c0, c1, c2⟩ := HR.out.some.2.2.2 j _ ht
      replace c0 := hwr.cell c0; replace c1 := hwr.cell c1; replace c2 := hwr.cell c2
      simp only [Nat.zero_add] at c0 c1 c2
      obtain ⟨kk, hk0, hk1, hlv⟩ := HLEV.out _ (List.mem_of_getElem? ht)
      obtain ⟨hz, b1, b2, b3, b4⟩ : k = kk ∧ 0 ≤ x ∧ x ≤ 31 ∧ 0 ≤ y ∧ y ≤ 31 := hlv
      subst hz
      have HRES := Lib.hid ((HMEM.out _).1 (List.mem_of_getElem? ht))
      have HJ := Lib.hid hj
      clear ht hj
      by_cases hkl : k ≤ least % ((n : Int) + 1)
      · have e1 : decide (k ≤ least % ((n : Int) + 1)) = true := by simp; omega
        go_wp2
        go_roundg (gk - 1)
        case measure => have := HJ.out; omega
        case rel => exact ⟨j + 1, by have := HJ.out; omega, by go_num, hwr.alloc _⟩
      · have e1 : decide (k ≤ least % ((n : Int) + 1)) = false := by simp; omega
        have HO := Lib.hid (show ∀ W, Calls Try.prog 11 #[.agg #[.int .i64 x, .int .i64 y, .int .i64 k], .int .i64 (k - 1)] W fun e w' => e = .returned (.agg #[.int .i64 (x / 2), .int .i64 (y / 2), .int .i64 (k - 1)]) ∧ Ext W w' from fun W => by
          have := over_any x y k (k - 1) W (by omega) (by omega) (by omega) (by omega) (by omega) (by omega) (by omega)
          rw [show (k - (k - 1)).toNat = 1 by omega] at this
          simpa using this)
        have HQ := Lib.hid (fun W => quarts_any (x / 2) (y / 2) (k - 1) W (by omega) (by omega) (by omega) (by omega) (by omega) (by omega))
        have hfull := res4_full H0.out HRES.out (by have := HLOW.out; dsimp only; omega)
        have HNOT := Lib.hid (show ¬ ∀ s ∈ quarts (x / 2) (y / 2) (k - 1), s ∈ us from fun hall => by
          obtain ⟨s, hs, hf⟩ := hfull
          have hm : s ∈ kids (x / 2) (y / 2) (k - 1) := (mem_kidsT s (x / 2, y / 2, k - 1)).2 hs
          have := (HMEM.out s).1 (hall s ((kids_quarts _ _ _).2.1 s hm))
          rw [hf] at this; cases this)
        have HQL := Lib.hid (show (quarts (x / 2) (y / 2) (k - 1)).length = 4 from rfl)
        generalize quarts (x / 2) (y / 2) (k - 1) = qs at *
        clear hfull
        go_wp2_with (first | (go_at_call 11; refine (HO.out _).mono ?_; rintro e w3 ⟨rfl, hb3⟩) | fail)
        refine (HQ.out _).mono ?_
        rintro e w4 ⟨g4, rfl, hr4, hb4⟩
        have X4 := Lib.hid (((hwr.alloc (.cells #[.int .i64 x, .int .i64 y, .int .i64 k] 28)).trans hb3).trans hb4)
        have HR4 := Lib.hid (show ∀ i t, qs[i]? = some t → _ from (show Reads w4 (.slice (some ⟨g4, 0, none⟩) qs.length 4) qs by rw [HQL.out]; exact hr4).some.2.2.2)
        clear hb3 hb4 hr4 c0 c1 c2 HO HQ hwr
        go_wp2_with fail
        go_loopg [13, 50] 4 (fun r all iv wr => ∃ (i : Nat) (bb : Bool), r + i = 4 ∧ iv = .int .i64 (i : Nat) ∧ all = .bool bb ∧ (bb = true ↔ ∀ s ∈ qs.take i, s ∈ us) ∧ Ext w4 wr)
        case atStart => exact ⟨0, true, rfl, rfl, rfl, by simp, Ext.refl _⟩
        case round =>
          obtain ⟨gm, rfl⟩ : ∃ gm : Nat, gm = gk := ⟨_, rfl⟩
          obtain ⟨i, bb, hi, rfl, rfl, hbb, hwr⟩ := hrel
          have HBB := Lib.hid hbb; clear hbb
          by_cases hi4 : i < 4
          · have e2 : decide ((i : Int) < 4) = true := by simp; omega
            have e3 : decide (i < 4) = true := by simp; omega
            obtain ⟨⟨p, q, s⟩, hqt⟩ : ∃ t, qs[i]? = some t := ⟨qs[i]'(by have := HQL.out; omega), List.getElem?_eq_getElem _⟩
            obtain ⟨f0, f1, f2⟩ := HR4.out i _ hqt
            replace f0 := hwr.cell f0; replace f1 := hwr.cell f1; replace f2 := hwr.cell f2
            simp only [Nat.zero_add] at f0 f1 f2
            have HQT := Lib.hid hqt; have HI := Lib.hid hi; clear hqt hi
            rcases bb with _ | _
            · go_wp2
              go_roundg (gm - 1)
              case measure => have := HI.out; omega
              case rel => exact ⟨i + 1, false, by have := HI.out; omega, by go_num, rfl, by rw [ite_iff_take HQT.out, ← HBB.out]; simp, hwr.alloc _⟩
            · have HAS := Lib.hid (fun (W : World) (hW : Ext w2 W) => has_any _ us p q s W (HR.out.ext hW))
              by_cases hin : ((p, q, s) : T3) ∈ us
              · rw [decide_eq_true hin] at HAS
                have HIN := Lib.hid hin; clear hin
                go_wp2_with (go_at_call 12; refine (HAS.out _ ((X4.out.trans hwr).alloc _)).mono ?_; rintro e w6 ⟨rfl, hb6⟩)
                go_roundg (gm - 1)
                case measure => have := HI.out; omega
                case rel => exact ⟨i + 1, true, by have := HI.out; omega, by go_num, rfl, by rw [ite_iff_take HQT.out, ← HBB.out]; simp [HIN.out], (hwr.alloc _).trans hb6⟩
              · rw [decide_eq_false hin] at HAS
                have HIN := Lib.hid hin; clear hin
                go_wp2_with (go_at_call 12; refine (HAS.out _ ((X4.out.trans hwr).alloc _)).mono ?_; rintro e w6 ⟨rfl, hb6⟩)
                go_roundg (gm - 1)
                case measure => have := HI.out; omega
                case rel => exact ⟨i + 1, false, by have := HI.out; omega, by go_num, rfl, by rw [ite_iff_take HQT.out]; simp [HIN.out], (hwr.alloc _).trans hb6⟩
          · obtain rfl : i = 4 := by omega
            obtain rfl : bb = false := by
              cases bb
              · rfl
              · exact absurd (by have := HBB.out.1 rfl; rwa [List.take_of_length_le (by rw [HQL.out]; exact Nat.le_refl _)] at this) HNOT.out
            go_wp2
            go_roundg (gk - 1)
            case measure => have := HJ.out; omega
            case rel => exact ⟨j + 1, by have := HJ.out; omega, by go_num, X4.out.trans hwr⟩
    · have d1 : decide ((j : Int) < us.length) = false := by simp; omega
      have d2 : decide (j < us.length) = false := by simp; omega
      go_wp2_with (go_at_call 9; refine (HV.out _).mono ?_; rintro e w3 ⟨rfl, hb3⟩)
      go_ret
      exact ⟨rfl, (X2.out.trans hwr).trans hb3⟩

end Go.Proofs.Ytdkknlnlfaoapaa
