/- FnMergeCovers answers true. No condition but the arguments' kinds. -/
import Derived.Test.YtdkknlnlfaoapaaLawFull
namespace Go.Proofs.Ytdkknlnlfaoapaa
open Go.ChangeShapes Go.WideShapes Go.ChangeAt Go.RowKit

theorem cov_take {n : Int} {us : List T3} {j : Nat} {t : T3} (h : us[j]? = some t) : cov n (us.take (j + 1)) = cov n (us.take j) ++ under n t := by
  rw [List.take_add_one, h]; simp [cov]
theorem cov_take_len (n : Int) (us : List T3) (j : Nat) : (cov n (us.take j)).length ≤ (cov n us).length := by
  have : us = us.take j ++ us.drop j := (List.take_append_drop j us).symm
  have e : cov n us = cov n (us.take j) ++ cov n (us.drop j) := by
    conv => lhs; rw [this]
    simp only [cov, List.flatMap_append]
  rw [e, List.length_append]; omega
theorem under_get {n : Int} {t : T3} {i d : Nat} (hd : (n - t.2.2).toNat = d) (hi : i < 2 ^ (2 * d)) :
    (under n t)[i]? = some (t.1 * 2 ^ d + (i : Int) % 2 ^ d, t.2.1 * 2 ^ d + (i : Int) / 2 ^ d, n) := by
  subst hd
  simp only [under, List.getElem?_map, List.getElem?_range hi, Option.map_some]

set_option maxRecDepth 8000 in
set_option maxHeartbeats 6400000 in
theorem covers_law (v : Value) (zs : List Int) (z least : Int) (w : World) (h : Bytes w v zs) (hz0 : 0 ≤ z) (hz1 : z ≤ 255) (hl0 : 0 ≤ least) (hl1 : least ≤ 255) :
    Calls Try.prog 3 #[v, .int .u8 z, .int .u8 least] w fun e w' => e = .returned (.bool true) ∧ Ext w w' := by
  obtain ⟨a, cap, rfl, hlen⟩ := h.form
  unfold maxLen at hlen
  obtain ⟨n, hn⟩ : ∃ n : Nat, z % 6 = n := ⟨(z % 6).toNat, by omega⟩
  have hn5 : n ≤ 5 := by omega
  have HT := Lib.hid (stiles_any _ zs z n w h hz0 hz1 hn)
  clear h hn
  by_cases hbig : 2147483647 < zs.length
  · have d1 : decide ((zs.length : Int) > 2147483647) = true := by simp; omega
    have d2 : decide ((2147483647 : Int) < zs.length) = true := by simp; omega
    have d3 : decide (2147483647 < zs.length) = true := by simp; omega
    go_enter Try.func3, Try.ntmps3
    go_wp2
    go_ret
    exact ⟨rfl, Ext.refl _⟩
  have d1 : decide ((zs.length : Int) > 2147483647) = false := by simp; omega
  have d2 : decide ((2147483647 : Int) < zs.length) = false := by simp; omega
  have d3 : decide (2147483647 < zs.length) = false := by simp; omega
  obtain ⟨i0, hi0, hz0', hz1', hz2'⟩ := info_parts infoT
  go_enter Try.func3, Try.ntmps3
  go_wp2_with fail
  refine HT.out.mono ?_
  rintro e w1 ⟨g, cap1, ts, rfl, hr, nd, hlev, hl, hx⟩
  have q0 : 0 ≤ least % ((n : Int) + 1) := Int.emod_nonneg _ (by omega)
  have q1 : least % ((n : Int) + 1) ≤ n := by have := Int.emod_lt_of_pos least (show (0 : Int) < (n : Int) + 1 by omega); omega
  obtain ⟨low, hlow⟩ : ∃ low : Nat, least % ((n : Int) + 1) = low := ⟨(least % ((n : Int) + 1)).toNat, by omega⟩
  have HM := Lib.hid (show ∀ x : Int, x = low → Calls Try.prog 7 #[.slice (some ⟨g, 0, none⟩) ts.length cap1, .int .i64 x] w1 (SetSays w1 (res 4 (fun t => decide (t ∈ ts)) (n - low))) from fun x hx => by
    subst hx; exact imerge_any g cap1 n low ts w1 hr nd hn5 (by omega) hlev)
  have HLOW := Lib.hid hlow
  have H0 := Lib.hid (show ∀ t : T3, decide (t ∈ ts) = true → t.2.2 = (n : Int) from fun t ht => (hlev t (by simpa using ht)).1)
  have hx1 := Lib.hid hx
  have HR1 := Lib.hid hr
  have hlown : low ≤ n := by omega
  clear hr nd hlev hx hlow HT d1 d2 d3 hlen hbig
  go_wp2_with fail
  refine (HM.out _ HLOW.out).mono ?_
  rintro e w2 ⟨g2, cap2, us, rfl, hr2, nd2, hmem, hlen2, hlev2, hx2⟩
  clear HM
  have HC := Lib.hid (show (cov n us).Nodup ∧ (∀ t, t ∈ cov n us ↔ t ∈ ts) from
    ⟨cov_nodup H0.out (fun t ht => (hmem t).1 ht) nd2, fun t => (cov_mem H0.out hmem t).trans (by simp)⟩)
  have HCL := Lib.hid (show (cov n us).length ≤ 601 from Nat.le_trans (length_le_of_sub _ ts HC.out.1 fun t ht => (HC.out.2 t).1 ht) hl)
  have HLV := Lib.hid (show ∀ t ∈ us, (low : Int) ≤ t.2.2 ∧ t.2.2 ≤ n from fun t ht => by
    have := res_level (by omega) H0.out ((hmem t).1 ht); omega)
  have HR := Lib.hid hr2; have HLEV := Lib.hid hlev2
  have X2 := Lib.hid (hx1.out.trans hx2)
  have HR1 := Lib.hid (HR1.out.ext hx2)
  clear hr2 hmem hlev2 hx2 nd2 hx1 hl
  have HV := Lib.hid valid_zero
  go_wp2_with fail
  go_loopg [10, 34] us.length (fun r cv i wr => ∃ (j g cap : Nat), r + j = us.length ∧ i = .int .i64 (j : Nat) ∧ cv = .slice (some ⟨g, 0, none⟩) (cov n (us.take j)).length cap ∧
    Owns wr w2.heap.size 28 .i64 (.slice (some ⟨g, 0, none⟩) (cov n (us.take j)).length cap) (cov n (us.take j)) ∧ Ext w2 wr)
  case atStart => exact ⟨0, w2.heap.size, 0, by omega, rfl, rfl, by simpa [cells3, cov] using Owns.lit w2 28 .i64 [] w2.heap.size (Nat.le_refl _) (by simp [maxLen]), (Ext.refl _).alloc _⟩
  case round =>
    obtain ⟨gj, rfl⟩ : ∃ gj : Nat, gj = gk := ⟨_, rfl⟩
    obtain ⟨j, g3, cap3, hj, rfl, rfl, hown, hwr⟩ := hrel
    obtain ⟨wo, rfl⟩ : ∃ wo : World, wo = wr := ⟨_, rfl⟩
    by_cases hlt : j < us.length
    · have d1 : decide ((j : Int) < us.length) = true := by simp; omega
      have d2 : decide (j < us.length) = true := by simp; omega
      obtain ⟨⟨x, y, k⟩, ht⟩ : ∃ t, us[j]? = some t := ⟨_, List.getElem?_eq_getElem hlt⟩
      obtain ⟨c0, c1, c2⟩ := HR.out.some.2.2.2 j _ ht
      replace c0 := hwr.cell c0; replace c1 := hwr.cell c1; replace c2 := hwr.cell c2
      simp only [Nat.zero_add] at c0 c1 c2
      obtain ⟨kk, hk0, hk1, hlv⟩ := HLEV.out _ (List.mem_of_getElem? ht)
      obtain ⟨hz, b1, b2, b3, b4⟩ : k = kk ∧ 0 ≤ x ∧ x ≤ 31 ∧ 0 ≤ y ∧ y ≤ 31 := hlv
      subst hz
      obtain ⟨lv1, lv2⟩ : (low : Int) ≤ k ∧ k ≤ n := HLV.out _ (List.mem_of_getElem? ht)
      have HTJ := Lib.hid ht
      have HJ := Lib.hid hj
      have HOWN := Lib.hid hown
      have hgb : w2.heap.size ≤ g3 ∧ g3 < wo.heap.size := by
        obtain ⟨tl, hrow⟩ := hown.row
        obtain ⟨_, _, hv, hb, _⟩ := hown.form
        cases hv
        exact ⟨hb, (Array.getElem?_eq_some_iff.1 hrow).1⟩
      have HWR := Lib.hid hwr
      clear ht hj hown hwr
      obtain ⟨d, hd⟩ : ∃ d : Nat, (n : Int) - k = d := ⟨((n : Int) - k).toNat, by omega⟩
      have hd5 : d ≤ 5 := by omega
      have e1 : decide (k > (n : Int)) = false := by simp; omega
      have e2 : decide ((n : Int) < k) = false := by simp; omega
      have e3 : decide (k < least % ((n : Int) + 1)) = false := by have := HLOW.out; simp; omega
      go_wp2_with fail
      have B2 := Lib.hid (blk_new wo (.cells #[.int .i64 x, .int .i64 y, .int .i64 k] 28))
      have XB := Lib.hid ((Ext.refl wo).alloc (.cells #[.int .i64 x, .int .i64 y, .int .i64 k] 28))
      generalize wo.alloc (.cells #[.int .i64 x, .int .i64 y, .int .i64 k] 28) = wb at *
      refine region_ext (by kernel_rfl) (by kernel_rfl) (fun hc => ?_)
      have L2 := fun l : Later wb => cell_of_blk (Ext.blk l.h B2.out)
      repeat (go_big_quiet_step (fail))
      refine wpQuiet_nil ?_
      rintro w3 ⟨⟨_, hw3⟩, rfl⟩
      have B3 := Lib.hid (Ext.blk hw3 B2.out)
      have X3 := Lib.hid (XB.out.trans hw3)
      have L3 := cell_of_blk B3.out
      clear L2 hc hw3 c0 c1 c2
      have hk : k = (n : Int) - d := by omega
      have HD := Lib.hid hd
      have hL0 := cov_take_len n us j
      have hL1 := cov_take_len n us (j + 1)
      have HS := Lib.hid (cov_take (n := (n : Int)) HTJ.out)
      have hU := Lib.hid (fun i (hi : i < 2 ^ (2 * d)) => under_get (n := (n : Int)) (t := (x, y, k)) (d := d) (by dsimp only; omega) hi)
      have hUL := Lib.hid (show (under (n : Int) (x, y, k)).length = 2 ^ (2 * d) by rw [under_length]; dsimp only; rw [show ((n : Int) - k).toNat = d by omega])
      have HACC := Lib.hid (show (cov n (us.take j)).length + 2 ^ (2 * d) ≤ 601 by
        rw [HS.out, List.length_append, hUL.out] at hL1; have := HCL.out; omega)
      clear hL0 hL1
      obtain ⟨M, hM⟩ : ∃ M : Nat, M = 2 ^ (2 * d) := ⟨_, rfl⟩
      rw [← hM] at hUL HACC hU
      have hM1 : M ≤ 1024 := by rw [hM]; exact Nat.le_trans (Nat.pow_le_pow_right (by omega) (show 2 * d ≤ 10 by omega)) (by decide)
      have hMI : (2 : Int) ^ (2 * d) = (M : Int) := by rw [hM]; push_cast; rfl
      obtain ⟨hP0, hP1⟩ := two_pow5 d hd5
      generalize hPd : (2 : Int) ^ d = P at *
      have HM := Lib.hid hM
      clear hM hk
      generalize cov n (us.take j) = acc at *
      generalize under (n : Int) (x, y, k) = un at *
      go_wp2_with fail
      go_loopg [10, 14] M (fun r cv iv wr => ∃ (i g cap : Nat), r + i = M ∧ iv = .int .i64 (i : Nat) ∧ cv = .slice (some ⟨g, 0, none⟩) (acc ++ un.take i).length cap ∧
        Owns wr w2.heap.size 28 .i64 (.slice (some ⟨g, 0, none⟩) (acc ++ un.take i).length cap) (acc ++ un.take i) ∧ g ≠ wo.heap.size ∧ wr.heap[wo.heap.size]? = some (.cells #[.int .i64 x, .int .i64 y, .int .i64 k] 28 (0, 0)) ∧ Ext w2 wr)
      case atStart => exact ⟨0, g3, cap3, by omega, rfl, by simp, by simpa using Ext.owns X3.out HOWN.out, by omega, B3.out, HWR.out.trans X3.out⟩
      case round =>
        obtain ⟨gi, rfl⟩ : ∃ gi : Nat, gi = gk := ⟨_, rfl⟩
        clear L3
        obtain ⟨i, g4, cap4, hi, rfl, rfl, hown4, hne4, hb4, hx4⟩ := hrel
        have HI := Lib.hid hi
        have HO4 := Lib.hid hown4; have B4 := Lib.hid hb4; have X4 := Lib.hid hx4
        have C4 := cell_of_blk B4.out
        clear hi hown4 hb4 hx4
        obtain ⟨wi, rfl⟩ : ∃ wi : World, wi = wr := ⟨_, rfl⟩
        by_cases hlti : i < M
        · have f1 : decide ((i : Int) < (M : Int)) = true := by simp; omega
          go_wp2_with fail
          have x0 : 0 ≤ x * P := Int.mul_nonneg b1 (by omega)
          have x1 : x * P ≤ 31 * 32 := Int.le_trans (Int.mul_le_mul_of_nonneg_right b2 (by omega)) (Int.mul_le_mul_of_nonneg_left hP1 (by omega))
          have y0 : 0 ≤ y * P := Int.mul_nonneg b3 (by omega)
          have y1 : y * P ≤ 31 * 32 := Int.le_trans (Int.mul_le_mul_of_nonneg_right b4 (by omega)) (Int.mul_le_mul_of_nonneg_left hP1 (by omega))
          have m0 : 0 ≤ (i : Int) % P := Int.emod_nonneg _ (by omega)
          have m1 : (i : Int) % P < P := Int.emod_lt_of_pos _ hP0
          have v0 : 0 ≤ (i : Int) / P := Int.ediv_nonneg (by omega) (by omega)
          have v1 : (i : Int) / P ≤ i := Int.ediv_le_self _ (by omega)
          have r1 : IntKind.i64.wrap (x * P) = x * P := IntWalk.i64_in _ (by omega)
          have r2 : IntKind.i64.wrap P = P := IntWalk.i64_in _ (by omega)
          have r3 : ((i : Int)).tmod P = (i : Int) % P := Int.tmod_eq_emod_of_nonneg (by omega)
          have r4 : IntKind.i64.wrap (x * P + (i : Int) % P) = x * P + (i : Int) % P := IntWalk.i64_in _ (by omega)
          have r5 : IntKind.i64.wrap (y * P) = y * P := IntWalk.i64_in _ (by omega)
          have r6 : IntKind.i64.wrap ((i : Int) / P) = (i : Int) / P := IntWalk.i64_in _ (by omega)
          have r7 : IntKind.i64.wrap (y * P + (i : Int) / P) = y * P + (i : Int) / P := IntWalk.i64_in _ (by omega)
          have r8 : IntKind.i64.wrap ((i : Int) % P) = (i : Int) % P := IntWalk.i64_in _ (by omega)
          have hne : ¬ P = 0 := by omega
          have HUI := Lib.hid (hU.out i hlti)
          have hlenA : (acc ++ un.take i).length + 1 ≤ 601 := by have := HACC.out; have := hUL.out; simp; omega
          generalize hL : acc ++ un.take i = L at *
          have HL := Lib.hid hL; clear hL
          go_region_law (first
            | (refine step_append_lies _ rfl (.tmp 63) (.tmp 83) 23 rfl w2.heap.size 28 i0 _ 3 24 Try.underlying23 hi0 hz0' hz1' hz2' rfl (by decide) _ L.length (cells3 .i64 L) (by rfl) (Ext.owns (((Ext.refl wi).alloc _).drew) HO4.out).1
                 ⟨wi.heap.size, 0, none⟩ 1 1 [.int .i64 (x * P + (i : Int) % P), .int .i64 (y * P + (i : Int) / P), .int .i64 n] (by rfl) (by rfl) (World.news_of_block (cs := #[.int .i64 (x * P + (i : Int) % P), .int .i64 (y * P + (i : Int) / P), .int .i64 n]) (t := 28) (fr := (0, 0)) (heap_alloc_new wi _)) (by simp [Value.oneCell'])
                 (by omega) (by simp only [maxLen]; omega) (by omega) (by have := X4.out.size; simp; omega) (wi.heap.size + 1) (by simp) ?_
               intro g6 cap6 w6 hown6 hgrow6 hat6 hlt6
               have H6 := Lib.hid (And.intro hown6 (And.intro hgrow6 hat6))
               clear hown6 hgrow6 hat6))
          all_goals
            clear r1 r2 r3 r4 r5 r6 r7 r8
            go_wp2
            go_roundg (gi - 1)
            case measure => have := HI.out; omega
            case rel =>
              have e : acc ++ un.take (i + 1) = L ++ [(x * P + (i : Int) % P, y * P + (i : Int) / P, (n : Int))] := by
                rw [List.take_add_one, HUI.out, ← List.append_assoc, HL.out]; rfl
              have hel : (acc ++ un.take (i + 1)).length = L.length + 1 := by rw [e]; simp
              have hg4 : w2.heap.size ≤ g4 ∧ g4 < wi.heap.size := by
                obtain ⟨tl, hrow⟩ := HO4.out.row
                obtain ⟨_, _, hv, hb, _⟩ := HO4.out.form
                cases hv
                exact ⟨hb, (Array.getElem?_eq_some_iff.1 hrow).1⟩
              have hwl := (Array.getElem?_eq_some_iff.1 B4.out).1
              have hat := H6.out.2.2
              simp only [Value.ownBlock] at hat
              refine ⟨i + 1, g6, cap6, by have := HI.out; omega, by go_num, by rw [hel], ?_, ?_, ?_, ?_⟩
              · rw [e]
                exact ⟨by rw [cells3_append]; simpa [cells3] using H6.out.1, by simp⟩
              · rcases hat with h | h
                · cases h; exact hne4
                · omega
              · exact (H6.out.2.1.block _ (by simp; omega) (fun h => hne4 (Option.some.inj h).symm)).trans (blk_old B4.out _)
              · exact Below.grown (((X4.out.alloc _).drew)) H6.out.2.1 (by have := X4.out.size; simp; omega) (fun k hk => by cases hk; exact hg4.1)
        · have f1 : decide ((i : Int) < (M : Int)) = false := by simp; omega
          obtain rfl : i = M := by have := HI.out; omega
          go_wp2_with fail
          go_roundg (gj - 1)
          case measure => have := HJ.out; omega
          case rel =>
            have e : acc ++ un.take i = cov n (us.take (j + 1)) := by rw [HS.out, List.take_of_length_le (by rw [hUL.out]; exact Nat.le_refl _)]
            refine ⟨j + 1, g4, cap4, by have := HJ.out; omega, by go_num, by rw [← e], ?_, X4.out⟩
            rw [← e]; exact HO4.out
    · obtain rfl : j = us.length := by omega
      have d1 : decide ((us.length : Int) < us.length) = false := by simp
      have hfull : us.take us.length = us := List.take_length
      rw [hfull] at hown ⊢
      have hsame := Lib.hid (fun W (hW : Ext wo W) => same_some g3 0 cap3 g 0 cap1 (cov n us) ts W (hown.reads.ext hW) (HR1.out.ext (hwr.trans hW)) HC.out.1 (fun t ht => (HC.out.2 t).1 ht) (fun t ht => (HC.out.2 t).2 ht))
      clear hfull hown
      go_wp2_with (first
        | (go_at_call 8; refine (hsame.out _ (Ext.refl _)).mono ?_; rintro e w5 ⟨rfl, hb5⟩)
        | (go_at_call 9; refine (HV.out _).mono ?_; rintro e w6 ⟨rfl, hb6⟩))
      go_ret
      exact ⟨rfl, ((X2.out.trans hwr).trans hb5).trans hb6⟩

end Go.Proofs.Ytdkknlnlfaoapaa
