/- FnExactNearestWithin answers true. Conditions: the arguments' kinds; the error's variable holds a pointer. -/
import Derived.Test.YtmmmknmncdlopaaDoorLawNearA
import Derived.Test.YtmmmknmncdlopaaDoorNeaF
namespace Go.Proofs.YtmmmknmncdlopaaDoor
open Go.ChangeShapes Go.WideShapes Go.ChangeAt Go.RowKit
open Go.Proofs.YtmmmknmncdlopaaDoor.F

/-- The distances below M that the law keeps, at most k, of the first i. -/
def wnt (L : List Int) (M : Int) (k i : Nat) : List Int := ((L.take i).filter fun x => decide (x < M)).take k
theorem wnt_succ {L : List Int} {M : Int} {k i : Nat} {x : Int} (h : L[i]? = some x) : wnt L M k (i + 1) = (((L.take i).filter fun x => decide (x < M)) ++ if x < M then [x] else []).take k := by
  unfold wnt
  rw [List.take_add_one, h, List.filter_append]
  by_cases hx : x < M
  · simp [hx]
  · simp [hx]
theorem wnt_add {L : List Int} {M : Int} {k i : Nat} {x : Int} (h : L[i]? = some x) (hx : x < M) (hl : (wnt L M k i).length < k) : wnt L M k (i + 1) = wnt L M k i ++ [x] := by
  rw [wnt_succ h, if_pos hx]
  unfold wnt at *
  generalize ((L.take i).filter fun x => decide (x < M)) = F at *
  rw [List.length_take] at hl
  rw [List.take_of_length_le (l := F ++ [x]) (by rw [List.length_append, List.length_singleton]; omega), List.take_of_length_le (l := F) (by omega)]
theorem wnt_full {L : List Int} {M : Int} {k i : Nat} {x : Int} (h : L[i]? = some x) (hl : ¬ (wnt L M k i).length < k) : wnt L M k (i + 1) = wnt L M k i := by
  rw [wnt_succ h]
  unfold wnt at *
  rw [List.length_take] at hl
  rw [List.take_append_of_le_length (by omega)]
theorem wnt_far {L : List Int} {M : Int} {k i : Nat} {x : Int} (h : L[i]? = some x) (hx : ¬ x < M) : wnt L M k (i + 1) = wnt L M k i := by
  rw [wnt_succ h, if_neg hx, List.append_nil]; rfl
theorem wnt_le (L : List Int) (M : Int) (k i : Nat) : (wnt L M k i).length ≤ k := by unfold wnt; rw [List.length_take]; omega

set_option maxRecDepth 8000 in
set_option maxHeartbeats 6400000 in
theorem within_law (a b c d : Int) (v : Value) (zs : List Int) (e f : Int) (kk sv : Int) (w : World) (ea : Addr) (ha : Short a) (hb : Short b) (hc : Short c) (hd : Short d) (hv : Shorts w v zs) (he : Short e) (hf : Short f) (hkk : 0 ≤ kk ∧ kk ≤ 255) (hsv : 0 ≤ sv ∧ sv ≤ 65535)
    (herr : w.cell? ⟨0, 0, none⟩ = some (.iface 128 (.pointer (some ea)))) :
    Calls Tryd.prog 5 #[.int .i16 a, .int .i16 b, .int .i16 c, .int .i16 d, v, .int .i16 e, .int .i16 f, .int .u8 kk, .int .u16 sv] w fun e w' => e = .returned (.bool true) ∧ Ext w w' := by
  obtain ⟨hk0, hk1⟩ := hkk
  obtain ⟨s, rfl⟩ : ∃ s : Nat, sv = (s : Int) := ⟨sv.toNat, by omega⟩
  have hs : s ≤ 65535 := by omega
  obtain ⟨a4, cap, rfl, hlen⟩ := hv.form
  unfold maxLen at hlen
  by_cases hbig : 2147483647 < zs.length
  · have d1 : decide ((zs.length : Int) > 2147483647) = true := by simp; omega
    have d2 : decide ((2147483647 : Int) < zs.length) = true := by simp; omega
    have d3 : decide (2147483647 < zs.length) = true := by simp; omega
    clear hv herr
    go_enter Tryd.func5, Tryd.ntmps5
    go_wp2
    exact bodyPost_ret (v := .bool true) (by simp [results, Tryd.results5, go_sem]) rfl ⟨rfl, Ext.refl _⟩
  have d1 : decide ((zs.length : Int) > 2147483647) = false := by simp; omega
  have d2 : decide ((2147483647 : Int) < zs.length) = false := by simp; omega
  have d3 : decide (2147483647 < zs.length) = false := by simp; omega
  have HV := Lib.hid hv; have HE := Lib.hid herr
  have HB1 := Lib.hid (box_small ha hb hc hd); have HPB := Lib.hid (show ((e, f, 0) : T3).1.natAbs ≤ 65536 ∧ ((e, f, 0) : T3).2.1.natAbs ≤ 65536 from by unfold Short at he hf; exact ⟨by show e.natAbs ≤ 65536; omega, by show f.natAbs ≤ 65536; omega⟩)
  have he1 : -32768 ≤ e ∧ e ≤ 32767 := he
  have hf1 : -32768 ≤ f ∧ f ≤ 32767 := hf
  obtain ⟨k, hk⟩ : ∃ k : Nat, 1 + kk % 50 = (k : Int) := ⟨(1 + kk % 50).toNat, by omega⟩
  have hk2 : 1 ≤ k ∧ k ≤ 50 := by omega
  have HLN := Lib.hid (show zs.length ≤ 2147483647 by omega)
  have B1 := Lib.hid (fun W => box_any a b c d W ha hb hc hd)
  clear hv herr ha hb hc hd he hf hbig hlen
  generalize boxLo a b c d = lo at *
  generalize boxHi a b c d = hi at *
  go_enter Tryd.func5, Tryd.ntmps5
  go_wp2_with fail
  refine (B1.out _).mono ?_
  rintro _ w1 ⟨rfl, hx1⟩
  go_wp2_with fail
  obtain ⟨w4, h2, x2, bl, bh⟩ := two_new w1 lo hi
  rw [← h2]
  have X4 := Lib.hid (hx1.trans x2); have BL4 := Lib.hid bl; have BH4 := Lib.hid bh
  clear hx1 d1 d2 d3 h2 x2 bl bh B1
  refine (steps_any _ zs w4 (HV.out.ext X4.out) HLN.out).mono ?_
  rintro _ w4b ⟨sg, scap, rfl, hos, hx5⟩
  have HSM := Lib.hid (steps_sm HV.out)
  have HSL := Lib.hid (steps_len zs)
  generalize steps zs = ss at *
  have X4b := Lib.hid (X4.out.trans hx5); have OS := Lib.hid (ownS_at hos)
  have CL := cell_of_blk (Ext.blk hx5 BL4.out)
  have CH := cell_of_blk (Ext.blk hx5 BH4.out)
  have hb5 := (Array.getElem?_eq_some_iff.1 (Ext.blk hx5 BH4.out)).1
  have hb6 := (Array.getElem?_eq_some_iff.1 (Ext.blk hx5 BL4.out)).1
  have X5 := Lib.hid (X4b.out.alloc (.cells #[.int .i64 e, .int .i64 f, .int .i64 0] 25))
  have BL5 := Lib.hid (blk_old (Ext.blk hx5 BL4.out) (.cells #[.int .i64 e, .int .i64 f, .int .i64 0] 25))
  have BH5 := Lib.hid (blk_old (Ext.blk hx5 BH4.out) (.cells #[.int .i64 e, .int .i64 f, .int .i64 0] 25))
  have BP5 := Lib.hid (blk_new w4b (.cells #[.int .i64 e, .int .i64 f, .int .i64 0] 25))
  have OS5 := Lib.hid (OS.out.ext ((Ext.refl w4b).alloc (.cells #[.int .i64 e, .int .i64 f, .int .i64 0] 25)))
  clear hos hx5 X4 BL4 BH4 OS X4b
  go_wp2_with fail
  generalize w4b.alloc (.cells #[.int .i64 e, .int .i64 f, .int .i64 0] 25) = w5 at *
  refine (play_any scap w5 OS5.out (by have := HSL.out; omega)).mono ?_
  rintro _ w6 ⟨gd, cd, gl, cl, rfl, _, hol, hx6⟩
  have X6 := Lib.hid (X5.out.trans hx6); have OL := Lib.hid hol
  have BL6 := Lib.hid (Ext.blk hx6 BL5.out); have BH6 := Lib.hid (Ext.blk hx6 BH5.out); have BP6 := Lib.hid (Ext.blk hx6 BP5.out)
  have HA := Lib.hid (show Asked w6 lo hi ss sg ea from ⟨HB1.out, OS5.out.ext hx6, by have := HSL.out; omega, HSM.out, ErrAt.intro HE.out X6.out⟩)
  have HPL := Lib.hid (show (plst lo hi ss ss.length).length ≤ 65536 from by have := plst_len lo hi ss ss.length; have := HSL.out; omega)
  have HLS := Lib.hid (plst_sm lo hi ss HSM.out ss.length)
  clear hol hx6 CL CH BL5 BH5 BP5 X5 hb5 hb6 OS5
  have CP := cell_of_blk BP6.out
  have hbp := (Array.getElem?_eq_some_iff.1 BP6.out).1
  obtain ⟨i0, hi0, hz0, hz1, hz2⟩ := info_parts infoJ
  have INF := Lib.hid (show Tryd.prog.info? 3 = some i0 ∧ i0.zero = some (.int .i64 0) ∧ i0.size = 1 ∧ i0.bytes = 8 from ⟨hi0, hz0, hz1, hz2⟩)
  clear hi0 hz0 hz1 hz2
  go_wp2_with fail
  refine (dists_any (plst lo hi ss ss.length) _ gl cl (e, f, 0) _ (kept_ext ((Ext.refl w6).alloc (.cells #[] 3)) OL.out) HPL.out HLS.out HPB.out).mono ?_
  rintro _ w7 ⟨ge, ce, L, rfl, hoe, hpe, hre, hx7'⟩
  have hx7 := ((Ext.refl w6).alloc (.cells #[] 3)).trans hx7'
  have N0 := Lib.hid (show w7.ownsRow w6.heap.size 3 1 (.slice (some ⟨w6.heap.size, 0, none⟩) 0 0) 0 (ints []) from kept_ext hx7' ⟨rfl, .inr ⟨_, 0, #[], rfl, Nat.le_refl _, blk_new w6 _, Nat.le_refl _, by simp [maxLen], rfl, rfl⟩⟩)
  have X67 := Lib.hid hx7
  have OE := Lib.hid hoe; have PE := Lib.hid hpe; have RE := Lib.hid hre
  have hL : L.length = (plst lo hi ss ss.length).length := by have := hpe.length_eq; rwa [List.length_map] at this
  have HLL := Lib.hid hL
  clear hoe hpe hre hx7 hx7' CP hbp hL
  obtain ⟨M, hM⟩ : ∃ M : Int, M = (s : Int) * (s : Int) := ⟨_, rfl⟩
  have HM := Lib.hid hM
  have hM0 : 0 ≤ M ∧ M ≤ 4294836225 := by
    have h1 : s * s ≤ 65535 * 65535 := Nat.mul_le_mul hs hs
    have h2 : (s : Int) * (s : Int) = ((s * s : Nat) : Int) := (Int.natCast_mul s s).symm
    omega
  have hwr : IntKind.i64.wrap M = M := IntWalk.i64_in _ (by omega)
  have hMs : (s : Int) * (s : Int) = M := hM.symm
  clear hM
  go_wp2_with fail
  go_loopg [26, 66] (plst lo hi ss ss.length).length (fun r lv iv wr => ∃ (i g n cap : Nat), r + i = (plst lo hi ss ss.length).length ∧ iv = .int .i64 (i : Nat) ∧ lv = .slice (some ⟨g, 0, none⟩) n cap ∧ (wnt L M k i).length = n ∧ wr.ownsRow w6.heap.size 3 1 (.slice (some ⟨g, 0, none⟩) n cap) n (ints (wnt L M k i)) ∧ Ext w6 wr ∧ wr.ownsRow (w6.alloc (.cells #[] 3)).heap.size 3 1 (.slice (some ⟨ge, 0, none⟩) (plst lo hi ss ss.length).length ce) (plst lo hi ss ss.length).length (ints L) ∧ g ≠ ge)
  case atStart => exact ⟨0, _, 0, 0, by omega, rfl, rfl, by simp [wnt], by simpa [wnt] using N0.out, X67.out, OE.out, by have h1 := (own_lt OE.out).1; rw [World.size_alloc] at h1; omega⟩
  case round =>
    obtain ⟨wo, rfl⟩ : ∃ wo : World, wo = wr := ⟨_, rfl⟩
    obtain ⟨i, g, n, cap, hR, rfl, rfl, hn, hown, hx6, hoo, hgg⟩ := hrel
    have HN := Lib.hid hn; have HO := Lib.hid hown; have Y6 := Lib.hid hx6; have OO := Lib.hid hoo
    have hnk : n ≤ k := hn ▸ wnt_le L M k i
    have hib : i ≤ 65536 := by have := HPL.out; omega
    clear hn hown hx6 hoo
    by_cases hlt : i < (plst lo hi ss ss.length).length
    · obtain ⟨x, hxu⟩ : ∃ x, L[i]? = some x := ⟨_, List.getElem?_eq_getElem (by rw [HLL.out]; exact hlt)⟩
      have d0 := ownJ_cell OO.out hxu
      have HXU := Lib.hid hxu
      clear hxu
      by_cases hxm : x = M
      · subst hxm
        have FIN := Lib.hid (X6.out.trans Y6.out)
        go_wp2_with fail
        exact bodyPost_ret (v := .bool true) (by simp [results, Tryd.results5, go_sem]) rfl ⟨rfl, FIN.out⟩
      · have hb1 : (x == M) = false := by simpa using hxm
        by_cases hxl : x < M
        · have hd1 : decide (x < M) = true := by simpa using hxl
          by_cases hnl : n < k
          · have hd2 : decide ((n : Int) < (k : Int)) = true := by simpa using hnl
            have hd3 : decide (n < k) = true := by simpa using hnl
            go_wp2_with (at_builtin; refine wpList_append_lies _ rfl (.tmp 90) (.tmp 92) 42 rfl w6.heap.size 3 i0 (.int .i64 0) 1 8 Tryd.underlying42 INF.out.1 INF.out.2.1 INF.out.2.2.1 INF.out.2.2.2 rfl (by decide) _ n (ints (wnt L M k i)) rfl (kept_ext ((Ext.refl _).alloc _) HO.out) ⟨wo.heap.size, 0, none⟩ 1 1 [.int .i64 x] rfl rfl (World.news_of_block (cs := #[.int .i64 x]) (t := 3) (fr := (0, 0)) (heap_alloc_new wo _)) (by simp [Value.oneCell']) (by omega) (by simp only [maxLen]; omega) (by omega) (by have := Y6.out.size; rw [World.size_alloc]; omega) (wo.heap.size + 1) (by simp) ?_)
            intro g3 cap3 wn hown hgrow hat hltn
            have Z := Lib.hid (Below.grown (Y6.out.alloc (.cells #[.int .i64 x] 3)) hgrow (by have := Y6.out.size; rw [World.size_alloc]; omega) (fun j hj => by injection hj with hj; rw [← hj]; exact (own_lt HO.out).1))
            have NW := Lib.hid (wnt_add (M := M) (k := k) HXU.out hxl (by rw [HN.out]; exact hnl))
            have OW := Lib.hid (show wn.ownsRow w6.heap.size 3 1 (.slice (some ⟨g3, 0, none⟩) (n + 1) cap3) (n + 1) (ints (wnt L M k (i + 1))) from by rw [NW.out, ints_append]; exact hown)
            have OEn := Lib.hid (show wn.ownsRow (w6.alloc (.cells #[] 3)).heap.size 3 1 (.slice (some ⟨ge, 0, none⟩) (plst lo hi ss ss.length).length ce) (plst lo hi ss ss.length).length (ints L) from own_keep (kept_ext ((Ext.refl wo).alloc (.cells #[.int .i64 x] 3)) OO.out) (hgrow.block ge (by have := (own_lt OO.out).2; rw [World.size_alloc]; omega) (fun hh => by injection hh with hh; exact hgg hh.symm)))
            have hgg3 : g3 ≠ ge := by
              rcases hat with h | h
              · injection h with h; rw [← h]; exact hgg
              · have := (own_lt OO.out).2; omega
            clear hown hgrow hat hltn d0
            go_wp2_with fail
            go_roundg ((plst lo hi ss ss.length).length - (i + 1))
            case measure => omega
            case rel => exact ⟨i + 1, g3, n + 1, cap3, by omega, rfl, rfl, by rw [NW.out, List.length_append, HN.out]; rfl, OW.out, Z.out, OEn.out, hgg3⟩
          · have hd2 : decide ((n : Int) < (k : Int)) = false := by simpa using hnl
            have hd3 : decide (n < k) = false := by simpa using hnl
            have NW := Lib.hid (wnt_full (M := M) (k := k) HXU.out (by rw [HN.out]; exact hnl))
            go_wp2_with fail
            go_roundg ((plst lo hi ss ss.length).length - (i + 1))
            case measure => omega
            case rel => exact ⟨i + 1, g, n, cap, by omega, rfl, rfl, by rw [NW.out]; exact HN.out, by rw [NW.out]; exact HO.out, Y6.out, OO.out, hgg⟩
        · have hd1 : decide (x < M) = false := by simpa using hxl
          have NW := Lib.hid (wnt_far (k := k) HXU.out hxl)
          go_wp2_with fail
          go_roundg ((plst lo hi ss ss.length).length - (i + 1))
          case measure => omega
          case rel => exact ⟨i + 1, g, n, cap, by omega, rfl, rfl, by rw [NW.out]; exact HN.out, by rw [NW.out]; exact HO.out, Y6.out, OO.out, hgg⟩
    · have hi : i = L.length := by have := HLL.out; omega
      have HI := Lib.hid hi
      have CL := cell_of_blk (Ext.blk Y6.out BL6.out)
      have CH := cell_of_blk (Ext.blk Y6.out BH6.out)
      have CP := cell_of_blk (Ext.blk Y6.out BP6.out)
      clear hi
      go_wp2_with fail
      refine (impl_within scap (p := (e, f, 0)) (s := s) wo (HA.out.ext Y6.out) HPB.out hk2.1 (by omega) (by omega)).mono ?_
      rintro _ w8 ⟨us, R, hp8, ha8, hM8, hk8, hR8, g8, c8, rfl, ho8, hx8⟩
      have hmap : us.map (dsq e f) = wnt L M k i := by
        have h := near_within hp8 ha8 hk8 hR8 hM8 PE.out RE.out
        rw [← HM.out] at h
        rw [HI.out]
        unfold wnt
        rw [List.take_length]
        exact h
      have hlen : us.length = n := by have h := congrArg List.length hmap; rwa [List.length_map, HN.out] at h
      subst hlen
      have X8 := Lib.hid ((X6.out.trans Y6.out).trans hx8); have OL8 := Lib.hid (kept_ext (Y6.out.trans hx8) OL.out); have BP8 := Lib.hid (Ext.blk (Y6.out.trans hx8) BP6.out); have OE8 := Lib.hid (kept_ext hx8 HO.out)
      have O8 := Lib.hid ho8
      have HAM := Lib.hid (among_any us _ R _ _ _ _ _ _ w8 ho8 OL8.out HPL.out hp8)
      have HMAP := Lib.hid hmap
      have HUS := Lib.hid (show ∀ x ∈ us, Sm x from fun x hx => HLS.out x (hp8.mem_iff.1 (List.mem_append.2 (.inl hx))))
      have hl8 : us.length ≤ 65536 := by have h := hp8.length_eq; rw [List.length_append] at h; have := HPL.out; omega
      clear hp8 ha8 hM8 hk8 hR8 ho8 hx8 hmap CL CH CP OL OE OO OL8 HA BP6 BL6 BH6 PE RE HLS HN HO Y6 X6 N0 X67 HLL HI
      go_wp2_with fail
      refine HAM.out.mono ?_
      rintro _ w9 ⟨rfl, hx9⟩
      have X9 := Lib.hid hx9
      clear hx9 HAM
      go_wp2_with fail
      generalize wnt L M k i = WT at *
      clear hR hlt hib
      go_loopg [116] us.length (fun r iv wr => ∃ (j : Nat), r + j = us.length ∧ iv = .int .i64 (j : Nat) ∧ Ext w8 wr)
      case atStart => exact ⟨0, by omega, rfl, X9.out⟩
      case round =>
        obtain ⟨j, hR, rfl, hx⟩ := hrel
        by_cases hlt : j < us.length
        · obtain ⟨u, hxu⟩ : ∃ x, us[j]? = some x := ⟨_, List.getElem?_eq_getElem hlt⟩
          obtain ⟨d0, d1, d2⟩ := ownI_cells (kept_ext hx O8.out) hxu
          have hsm := HUS.out u (List.mem_of_getElem? hxu)
          have XR := Lib.hid hx
          obtain ⟨dv, hdv⟩ : ∃ dv, dv = dsq e f u := ⟨_, rfl⟩
          have HD := Lib.hid (show ∀ W, Calls Tryd.prog 20 #[.agg #[.int .i64 u.1, .int .i64 u.2.1, .int .i64 u.2.2], .agg #[.int .i64 e, .int .i64 f, .int .i64 0]] W fun r w' => r = .returned (.int .i64 dv) ∧ Ext W w' from fun W => by rw [hdv]; exact sdist_any u (e, f, 0) W ⟨by have := hsm.1; omega, by have := hsm.2; omega⟩ HPB.out)
          have HW := Lib.hid (show WT[j]? = some dv from by rw [← HMAP.out, List.getElem?_map, hxu, hdv]; rfl)
          have X10 := Lib.hid (hx.alloc (.cells #[.int .i64 u.1, .int .i64 u.2.1, .int .i64 u.2.2] 25))
          have BU := Lib.hid (blk_new wr (.cells #[.int .i64 u.1, .int .i64 u.2.1, .int .i64 u.2.2] 25))
          clear hx hsm hdv hxu
          go_wp2_with fail
          generalize wr.alloc (.cells #[.int .i64 u.1, .int .i64 u.2.1, .int .i64 u.2.2] 25) = wb at *
          have L1 := fun l : Later wb => cell_of_blk (Ext.blk l.h BU.out)
          have L2 := fun l : Later wb => cell_of_blk (Ext.blk (X10.out.trans l.h) BP8.out)
          have L3 := fun l : Later wb => ownJ_cell (kept_ext (X10.out.trans l.h) OE8.out) HW.out
          clear d0 d1 d2
          refine region_ext (by kernel_rfl) (by kernel_rfl) (fun hc => ?_)
          repeat (go_big_quiet_step (exact Calls.later (HD.out _)))
          refine wpQuiet_nil ?_
          rintro w3 ⟨⟨_, hw3⟩, rfl⟩
          have X11 := Lib.hid (X10.out.trans hw3)
          clear L1 L2 L3 hc hw3 BU HD HW XR X10
          go_wp2_with fail
          go_roundg (us.length - (j + 1))
          case measure => omega
          case rel => exact ⟨j + 1, by omega, rfl, X11.out⟩
        · have hj : j = us.length := by omega
          subst hj
          have XR := Lib.hid (X8.out.trans hx)
          clear hx hlt
          go_wp2_with fail
          refine (valid_zero _).mono ?_
          rintro _ wv ⟨rfl, hxv⟩
          have FIN := Lib.hid (XR.out.trans hxv)
          clear hxv
          go_wp2
          exact bodyPost_ret (v := .bool true) (by simp [results, Tryd.results5, go_sem]) rfl ⟨rfl, FIN.out⟩

end Go.Proofs.YtmmmknmncdlopaaDoor
