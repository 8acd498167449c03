/- FnMergePartial answers true. No condition but the arguments' kinds. -/
import Derived.Test.YtdkknlnlfaoapaaLawFull
namespace Go.Proofs.Ytdkknlnlfaoapaa
open Go.ChangeShapes Go.WideShapes Go.ChangeAt Go.RowKit

theorem ex_take {us : List T3} {i : Nat} {u : T3} (hu : us[i]? = some u) (P : T3 → Prop) : (∃ s ∈ us.take (i + 1), P s) ↔ (∃ s ∈ us.take i, P s) ∨ P u := by
  rw [List.take_add_one, hu]
  simp only [Option.toList_some, List.mem_append, List.mem_singleton]
  constructor
  · rintro ⟨s, hs | rfl, h⟩
    · exact .inl ⟨s, hs, h⟩
    · exact .inr h
  · rintro (⟨s, hs, h⟩ | h)
    · exact ⟨s, .inl hs, h⟩
    · exact ⟨u, .inr rfl, h⟩

set_option maxRecDepth 8000 in
set_option maxHeartbeats 6400000 in
theorem partial_law (v : Value) (zs : List Int) (z least count : Int) (w : World) (h : Bytes w v zs) (hz0 : 0 ≤ z) (hz1 : z ≤ 255) (hl0 : 0 ≤ least) (hl1 : least ≤ 255) (hc0 : 0 ≤ count) (hc1 : count ≤ 255) :
    Calls Try.prog 5 #[v, .int .u8 z, .int .u8 least, .int .u8 count] w fun e w' => e = .returned (.bool true) ∧ Ext w w' := by
  obtain ⟨a, cap, rfl, hlen⟩ := h.form
  unfold maxLen at hlen
  obtain ⟨n, hn⟩ : ∃ n : Nat, z % 6 = n := ⟨(z % 6).toNat, by omega⟩
  have hn5 : n ≤ 5 := by omega
  have HT := Lib.hid (stiles_any _ zs z n w h hz0 hz1 hn)
  clear h hn
  by_cases hbig : 2147483647 < zs.length
  · have d1 : decide ((zs.length : Int) > 2147483647) = true := by simp; omega
    have d2 : decide ((2147483647 : Int) < zs.length) = true := by simp; omega
    have d3 : decide (2147483647 < zs.length) = true := by simp; omega
    go_enter Try.func5, Try.ntmps5
    go_wp2
    go_ret
    exact ⟨rfl, Ext.refl _⟩
  have d1 : decide ((zs.length : Int) > 2147483647) = false := by simp; omega
  have d2 : decide ((2147483647 : Int) < zs.length) = false := by simp; omega
  have d3 : decide (2147483647 < zs.length) = false := by simp; omega
  obtain ⟨c, hc⟩ : ∃ c : Nat, 1 + count % 4 = c := ⟨(1 + count % 4).toNat, by omega⟩
  have hcc : 1 ≤ c ∧ c ≤ 4 := by omega
  have HCC := Lib.hid hc; clear hc
  go_enter Try.func5, Try.ntmps5
  go_wp2_with fail
  refine HT.out.mono ?_
  rintro e w1 ⟨g, cap1, ts, rfl, hr, nd, hlev, hl, hx⟩
  have q0 : 0 ≤ least % ((n : Int) + 1) := Int.emod_nonneg _ (by omega)
  have q1 : least % ((n : Int) + 1) ≤ n := by have := Int.emod_lt_of_pos least (show (0 : Int) < (n : Int) + 1 by omega); omega
  obtain ⟨low, hlow⟩ : ∃ low : Nat, least % ((n : Int) + 1) = low := ⟨(least % ((n : Int) + 1)).toNat, by omega⟩
  have HM := Lib.hid (show ∀ (W : World) (x y : Int) (c : Nat), Ext w1 W → x = low → y = c → 1 ≤ c → c ≤ 4 → Calls Try.prog 13 #[.slice (some ⟨g, 0, none⟩) ts.length cap1, .int .i64 x, .int .i64 y] W (SetSays W (res c (fun t => decide (t ∈ ts)) (n - low))) from fun W x y c hW hx hy h1 h4 => by
    subst hx; subst hy; exact imergepart_any g cap1 n low c ts W (hr.ext hW) nd hn5 (by omega) hlev h1 h4)
  have HU := Lib.hid (show ∀ (W : World) (x : Int), Ext w1 W → x = low → Calls Try.prog 7 #[.slice (some ⟨g, 0, none⟩) ts.length cap1, .int .i64 x] W (SetSays W (res 4 (fun t => decide (t ∈ ts)) (n - low))) from fun W x hW hx => by
    subst hx; exact imerge_any g cap1 n low ts W (hr.ext hW) nd hn5 (by omega) hlev)
  have HLOW := Lib.hid hlow
  have H0 := Lib.hid (show ∀ t : T3, decide (t ∈ ts) = true → t.2.2 = (n : Int) from fun t ht => (hlev t (by simpa using ht)).1)
  have HLT := Lib.hid hlev
  have hx1 := Lib.hid hx
  have HR1 := Lib.hid hr
  have hlown : low ≤ n := by omega
  clear hr nd hlev hx hlow HT d1 d2 d3 hlen hbig
  go_wp2_with fail
  refine (HM.out _ _ _ c (Ext.refl _) HLOW.out HCC.out hcc.1 hcc.2).mono ?_
  rintro e w2 ⟨g2, cap2, us, rfl, hr2, nd2, hmem, hlen2, hlev2, hx2⟩
  have HLV := Lib.hid (show ∀ t ∈ us, t.2.2 ≤ n ∧ 0 ≤ t.2.2 from fun t ht => by
    have := res_level hcc.1 H0.out ((hmem t).1 ht); omega)
  have HCOV := Lib.hid (show ∀ t ∈ ts, ∃ u ∈ us, up ((n : Int) - u.2.2).toNat t = u from fun t ht => by
    obtain ⟨k, hk, hr⟩ := res_cover (c := c) (f0 := fun t => decide (t ∈ ts)) (t := t) (by simpa using ht) (n - low)
    have hz := H0.out t (by simpa using ht)
    refine ⟨up k t, (hmem _).2 hr, ?_⟩
    rw [show ((n : Int) - (up k t).2.2).toNat = k by simp only [up]; omega])
  have HR := Lib.hid hr2; have HLEV := Lib.hid hlev2
  have X2 := Lib.hid hx2
  have XW := Lib.hid (hx1.out.trans hx2)
  have HR1 := Lib.hid (HR1.out.ext hx2)
  clear hr2 hmem hlev2 hx2 nd2 hx1
  have HV := Lib.hid valid_zero
  have he := eq_tile
  go_wp2_with fail
  go_loopg [41] ts.length (fun r i wr => ∃ j : Nat, r + j = ts.length ∧ i = .int .i64 (j : Nat) ∧ Ext w2 wr)
  case atStart => exact ⟨0, by omega, rfl, Ext.refl _⟩
  case round =>
    obtain ⟨gj, rfl⟩ : ∃ gj : Nat, gj = gk := ⟨_, rfl⟩
    obtain ⟨j, hj, rfl, hwr⟩ := hrel
    obtain ⟨wo, rfl⟩ : ∃ wo : World, wo = wr := ⟨_, rfl⟩
    by_cases hlt : j < ts.length
    · have d1 : decide ((j : Int) < ts.length) = true := by simp; omega
      have d2 : decide (j < ts.length) = true := by simp; omega
      obtain ⟨⟨x, y, k⟩, ht⟩ : ∃ t, ts[j]? = some t := ⟨_, List.getElem?_eq_getElem hlt⟩
      obtain ⟨c0, c1, c2⟩ := HR1.out.some.2.2.2 j _ ht
      replace c0 := hwr.cell c0; replace c1 := hwr.cell c1; replace c2 := hwr.cell c2
      simp only [Nat.zero_add] at c0 c1 c2
      obtain ⟨hz, b1, b2, b3, b4⟩ : k = n ∧ 0 ≤ x ∧ x ≤ 31 ∧ 0 ≤ y ∧ y ≤ 31 := HLT.out _ (List.mem_of_getElem? ht)
      subst hz
      have HC1 := Lib.hid (HCOV.out _ (List.mem_of_getElem? ht))
      have HJ := Lib.hid hj
      have HWR := Lib.hid hwr
      clear ht hj hwr
      go_wp2_with fail
      have B1 := Lib.hid (blk_new wo (.cells #[.int .i64 x, .int .i64 y, .int .i64 n] 28))
      have X1 := Lib.hid (HWR.out.alloc (.cells #[.int .i64 x, .int .i64 y, .int .i64 n] 28))
      generalize wo.alloc (.cells #[.int .i64 x, .int .i64 y, .int .i64 n] 28) = wb at *
      clear c0 c1 c2
      go_loopg [15, 47] us.length (fun r is iv wr => ∃ (i : Nat) (bb : Bool), r + i = us.length ∧ iv = .int .i64 (i : Nat) ∧ is = .bool bb ∧ (bb = true ↔ ∃ u ∈ us.take i, up ((n : Int) - u.2.2).toNat (x, y, (n : Int)) = u) ∧ Ext wb wr)
      case atStart => exact ⟨0, false, by omega, rfl, rfl, by simp, Ext.refl _⟩
      case round =>
        obtain ⟨gi, rfl⟩ : ∃ gi : Nat, gi = gk := ⟨_, rfl⟩
        obtain ⟨i, bb, hi, rfl, rfl, hbb, hwi⟩ := hrel
        obtain ⟨wi, rfl⟩ : ∃ wi : World, wi = wr := ⟨_, rfl⟩
        have HBB := Lib.hid hbb; clear hbb
        by_cases hlti : i < us.length
        · have f1 : decide ((i : Int) < us.length) = true := by simp; omega
          have f2 : decide (i < us.length) = true := by simp; omega
          obtain ⟨⟨p, q, s⟩, hu⟩ : ∃ t, us[i]? = some t := ⟨_, List.getElem?_eq_getElem hlti⟩
          obtain ⟨c0, c1, c2⟩ := HR.out.some.2.2.2 i _ hu
          have hxi := X1.out.trans hwi
          replace c0 := hxi.cell c0; replace c1 := hxi.cell c1; replace c2 := hxi.cell c2
          simp only [Nat.zero_add] at c0 c1 c2
          obtain ⟨v1, v0⟩ : s ≤ n ∧ 0 ≤ s := HLV.out _ (List.mem_of_getElem? hu)
          have HU1 := Lib.hid hu; have HI := Lib.hid hi
          have B1i := Lib.hid (Ext.blk hwi B1.out)
          have HWI := Lib.hid hwi
          clear hu hi hxi hwi
          have g1 : decide (s ≤ (n : Int)) = true := by simp; omega
          have HOV := Lib.hid (fun W => over_any x y n s W v0 v1 (by omega) b1 b3 (by omega) (by omega))
          generalize hd : ((n : Int) - s).toNat = d at *
          have HX := Lib.hid (show up ((n : Int) - s).toNat (x, y, (n : Int)) = (x / 2 ^ d, y / 2 ^ d, s) by rw [hd]; simp only [up]; rw [show (n : Int) - d = s by omega])
          clear hd
          generalize x / 2 ^ d = px at *
          generalize y / 2 ^ d = py at *
          go_wp2_with fail
          have B2 := Lib.hid (blk_new wi (.cells #[.int .i64 p, .int .i64 q, .int .i64 s] 28))
          have B3 := Lib.hid (blk_old B1i.out (.cells #[.int .i64 p, .int .i64 q, .int .i64 s] 28))
          have XB := Lib.hid (HWI.out.alloc (.cells #[.int .i64 p, .int .i64 q, .int .i64 s] 28))
          generalize wi.alloc (.cells #[.int .i64 p, .int .i64 q, .int .i64 s] 28) = wc at *
          clear c0 c1 c2
          rcases bb with _ | _
          · by_cases hp : px = p
            · subst hp
              by_cases hq : py = q
              · subst hq
                have HIFF := Lib.hid (show (true = true ↔ ∃ u ∈ us.take (i + 1), up ((n : Int) - u.2.2).toNat (x, y, (n : Int)) = u) from
                  ⟨fun _ => (ex_take HU1.out _).2 (.inr HX.out), fun _ => rfl⟩)
                refine region_ext (by kernel_rfl) (by kernel_rfl) (fun hc => ?_)
                have L1 := fun l : Later wc => cell_of_blk (Ext.blk l.h B3.out)
                have L2 := fun l : Later wc => cell_of_blk (Ext.blk l.h B2.out)
                repeat (go_big_quiet_step ((go_at_call 11; exact Calls.later (HOV.out _))))
                refine wpQuiet_nil ?_
                rintro w3 ⟨⟨_, hw3⟩, rfl⟩
                go_wp2
                go_roundg (gi - 1)
                case measure => have := HI.out; omega
                case rel => exact ⟨i + 1, true, by have := HI.out; omega, by go_num, by simp, by simpa using HIFF.out, XB.out.trans hw3⟩
              · have hq2 : (py == q) = false := by simpa using hq
                have HIFF := Lib.hid (show (false = true ↔ ∃ u ∈ us.take (i + 1), up ((n : Int) - u.2.2).toNat (x, y, (n : Int)) = u) from by
                  rw [ex_take HU1.out, ← HBB.out, HX.out]; simp [hq])
                clear hq
                refine region_ext (by kernel_rfl) (by kernel_rfl) (fun hc => ?_)
                have L1 := fun l : Later wc => cell_of_blk (Ext.blk l.h B3.out)
                have L2 := fun l : Later wc => cell_of_blk (Ext.blk l.h B2.out)
                repeat (go_big_quiet_step ((go_at_call 11; exact Calls.later (HOV.out _))))
                refine wpQuiet_nil ?_
                rintro w3 ⟨⟨_, hw3⟩, rfl⟩
                go_wp2
                go_roundg (gi - 1)
                case measure => have := HI.out; omega
                case rel => exact ⟨i + 1, false, by have := HI.out; omega, by go_num, by simp, HIFF.out, XB.out.trans hw3⟩
            · have hp2 : (px == p) = false := by simpa using hp
              have HIFF := Lib.hid (show (false = true ↔ ∃ u ∈ us.take (i + 1), up ((n : Int) - u.2.2).toNat (x, y, (n : Int)) = u) from by
                rw [ex_take HU1.out, ← HBB.out, HX.out]; simp [hp])
              clear hp
              refine region_ext (by kernel_rfl) (by kernel_rfl) (fun hc => ?_)
              have L1 := fun l : Later wc => cell_of_blk (Ext.blk l.h B3.out)
              have L2 := fun l : Later wc => cell_of_blk (Ext.blk l.h B2.out)
              repeat (go_big_quiet_step ((go_at_call 11; exact Calls.later (HOV.out _))))
              refine wpQuiet_nil ?_
              rintro w3 ⟨⟨_, hw3⟩, rfl⟩
              go_wp2
              go_roundg (gi - 1)
              case measure => have := HI.out; omega
              case rel => exact ⟨i + 1, false, by have := HI.out; omega, by go_num, by simp, HIFF.out, XB.out.trans hw3⟩
          · have HIFF := Lib.hid (show (true = true ↔ ∃ u ∈ us.take (i + 1), up ((n : Int) - u.2.2).toNat (x, y, (n : Int)) = u) from
              ⟨fun _ => (ex_take HU1.out _).2 (.inl (HBB.out.1 rfl)), fun _ => rfl⟩)
            refine region_ext (by kernel_rfl) (by kernel_rfl) (fun hc => ?_)
            have L1 := fun l : Later wc => cell_of_blk (Ext.blk l.h B3.out)
            have L2 := fun l : Later wc => cell_of_blk (Ext.blk l.h B2.out)
            repeat (go_big_quiet_step (fail))
            refine wpQuiet_nil ?_
            rintro w3 ⟨⟨_, hw3⟩, rfl⟩
            go_wp2
            go_roundg (gi - 1)
            case measure => have := HI.out; omega
            case rel => exact ⟨i + 1, true, by have := HI.out; omega, by go_num, by simp, by simpa using HIFF.out, XB.out.trans hw3⟩
        · obtain rfl : i = us.length := by omega
          have f1 : decide ((us.length : Int) < us.length) = false := by simp
          obtain rfl : bb = true := by
            have := HC1.out
            rw [← List.take_length (l := us)] at this
            exact HBB.out.2 this
          go_wp2_with fail
          go_roundg (gj - 1)
          case measure => have := HJ.out; omega
          case rel => exact ⟨j + 1, by have := HJ.out; omega, by go_num, X1.out.trans hwi⟩
    · obtain rfl : j = ts.length := by omega
      have d1 : decide ((ts.length : Int) < ts.length) = false := by simp
      go_wp2_with fail
      refine (HM.out _ _ _ 4 (X2.out.trans hwr) HLOW.out rfl (by omega) (by omega)).mono ?_
      rintro e w5 ⟨g5, cap5, us5, rfl, hr5, nd5, hmem5, _, _, hx5⟩
      have HR5 := Lib.hid hr5; have ND5 := Lib.hid nd5; have HM5 := Lib.hid hmem5; have X5 := Lib.hid hx5
      clear hr5 nd5 hmem5 hx5
      go_wp2_with fail
      refine (HU.out _ _ ((X2.out.trans hwr).trans X5.out) HLOW.out).mono ?_
      rintro e w6 ⟨g6, cap6, us6, rfl, hr6, nd6, hmem6, _, _, hx6⟩
      have HS := Lib.hid (same_some g5 0 cap5 g6 0 cap6 us5 us6 w6 (HR5.out.ext hx6) hr6 ND5.out (fun t ht => (hmem6 t).2 ((HM5.out t).1 ht)) (fun t ht => (HM5.out t).2 ((hmem6 t).1 ht)))
      have X6 := Lib.hid (X5.out.trans hx6)
      clear hr6 nd6 hmem6 hx6
      go_wp2_with (first
        | (go_at_call 8; refine HS.out.mono ?_; rintro e w7 ⟨rfl, hb7⟩)
        | (go_at_call 9; refine (HV.out _).mono ?_; rintro e w8 ⟨rfl, hb8⟩))
      go_ret
      exact ⟨rfl, (((XW.out.trans hwr).trans X6.out).trans hb7).trans hb8⟩

end Go.Proofs.Ytdkknlnlfaoapaa
