/- FnExactNearest answers true. Conditions: the arguments' kinds; the error's variable holds a pointer. -/
import Derived.Test.YtmmmknmncdlopaaDoorLawNearA
import Derived.Test.YtmmmknmncdlopaaDoorNeaF
namespace Go.Proofs.YtmmmknmncdlopaaDoor
open Go.ChangeShapes Go.WideShapes Go.ChangeAt Go.RowKit
open Go.Proofs.YtmmmknmncdlopaaDoor.F

set_option maxRecDepth 8000 in
set_option maxHeartbeats 6400000 in
theorem nearest_law (a b c d : Int) (v : Value) (zs : List Int) (e f : Int) (kk : Int) (w : World) (ea : Addr) (ha : Short a) (hb : Short b) (hc : Short c) (hd : Short d) (hv : Shorts w v zs) (he : Short e) (hf : Short f) (hkk : 0 ≤ kk ∧ kk ≤ 255)
    (herr : w.cell? ⟨0, 0, none⟩ = some (.iface 128 (.pointer (some ea)))) :
    Calls Tryd.prog 4 #[.int .i16 a, .int .i16 b, .int .i16 c, .int .i16 d, v, .int .i16 e, .int .i16 f, .int .u8 kk] w fun e w' => e = .returned (.bool true) ∧ Ext w w' := by
  obtain ⟨hk0, hk1⟩ := hkk
  obtain ⟨a4, cap, rfl, hlen⟩ := hv.form
  unfold maxLen at hlen
  by_cases hbig : 2147483647 < zs.length
  · have d1 : decide ((zs.length : Int) > 2147483647) = true := by simp; omega
    have d2 : decide ((2147483647 : Int) < zs.length) = true := by simp; omega
    have d3 : decide (2147483647 < zs.length) = true := by simp; omega
    clear hv herr
    go_enter Tryd.func4, Tryd.ntmps4
    go_wp2
    exact bodyPost_ret (v := .bool true) (by simp [results, Tryd.results4, go_sem]) rfl ⟨rfl, Ext.refl _⟩
  have d1 : decide ((zs.length : Int) > 2147483647) = false := by simp; omega
  have d2 : decide ((2147483647 : Int) < zs.length) = false := by simp; omega
  have d3 : decide (2147483647 < zs.length) = false := by simp; omega
  have HV := Lib.hid hv; have HE := Lib.hid herr
  have HB1 := Lib.hid (box_small ha hb hc hd); have HPB := Lib.hid (show ((e, f, 0) : T3).1.natAbs ≤ 65536 ∧ ((e, f, 0) : T3).2.1.natAbs ≤ 65536 from by unfold Short at he hf; exact ⟨by show e.natAbs ≤ 65536; omega, by show f.natAbs ≤ 65536; omega⟩)
  have he1 : -32768 ≤ e ∧ e ≤ 32767 := he
  have hf1 : -32768 ≤ f ∧ f ≤ 32767 := hf
  obtain ⟨k, hk⟩ : ∃ k : Nat, 1 + kk % 50 = (k : Int) := ⟨(1 + kk % 50).toNat, by omega⟩
  have hk2 : 1 ≤ k ∧ k ≤ 50 := by omega
  have HLN := Lib.hid (show zs.length ≤ 2147483647 by omega)
  have B1 := Lib.hid (fun W => box_any a b c d W ha hb hc hd)
  clear hv herr ha hb hc hd he hf hbig hlen
  generalize boxLo a b c d = lo at *
  generalize boxHi a b c d = hi at *
  go_enter Tryd.func4, Tryd.ntmps4
  go_wp2_with fail
  refine (B1.out _).mono ?_
  rintro _ w1 ⟨rfl, hx1⟩
  go_wp2_with fail
  obtain ⟨w4, h2, x2, bl, bh⟩ := two_new w1 lo hi
  rw [← h2]
  have X4 := Lib.hid (hx1.trans x2); have BL4 := Lib.hid bl; have BH4 := Lib.hid bh
  clear hx1 d1 d2 d3 h2 x2 bl bh B1
  refine (steps_any _ zs w4 (HV.out.ext X4.out) HLN.out).mono ?_
  rintro _ w4b ⟨sg, scap, rfl, hos, hx5⟩
  have HSM := Lib.hid (steps_sm HV.out)
  have HSL := Lib.hid (steps_len zs)
  generalize steps zs = ss at *
  have X4b := Lib.hid (X4.out.trans hx5); have OS := Lib.hid (ownS_at hos)
  have CL := cell_of_blk (Ext.blk hx5 BL4.out)
  have CH := cell_of_blk (Ext.blk hx5 BH4.out)
  have hb5 := (Array.getElem?_eq_some_iff.1 (Ext.blk hx5 BH4.out)).1
  have hb6 := (Array.getElem?_eq_some_iff.1 (Ext.blk hx5 BL4.out)).1
  have X5 := Lib.hid (X4b.out.alloc (.cells #[.int .i64 e, .int .i64 f, .int .i64 0] 25))
  have BL5 := Lib.hid (blk_old (Ext.blk hx5 BL4.out) (.cells #[.int .i64 e, .int .i64 f, .int .i64 0] 25))
  have BH5 := Lib.hid (blk_old (Ext.blk hx5 BH4.out) (.cells #[.int .i64 e, .int .i64 f, .int .i64 0] 25))
  have BP5 := Lib.hid (blk_new w4b (.cells #[.int .i64 e, .int .i64 f, .int .i64 0] 25))
  have OS5 := Lib.hid (OS.out.ext ((Ext.refl w4b).alloc (.cells #[.int .i64 e, .int .i64 f, .int .i64 0] 25)))
  clear hos hx5 X4 BL4 BH4 OS X4b
  go_wp2_with fail
  generalize w4b.alloc (.cells #[.int .i64 e, .int .i64 f, .int .i64 0] 25) = w5 at *
  refine (play_any scap w5 OS5.out (by have := HSL.out; omega)).mono ?_
  rintro _ w6 ⟨gd, cd, gl, cl, rfl, _, hol, hx6⟩
  have X6 := Lib.hid (X5.out.trans hx6); have OL := Lib.hid hol
  have BL6 := Lib.hid (Ext.blk hx6 BL5.out); have BH6 := Lib.hid (Ext.blk hx6 BH5.out); have BP6 := Lib.hid (Ext.blk hx6 BP5.out)
  have HA := Lib.hid (show Asked w6 lo hi ss sg ea from ⟨HB1.out, OS5.out.ext hx6, by have := HSL.out; omega, HSM.out, ErrAt.intro HE.out X6.out⟩)
  have HPL := Lib.hid (show (plst lo hi ss ss.length).length ≤ 65536 from by have := plst_len lo hi ss ss.length; have := HSL.out; omega)
  have HLS := Lib.hid (plst_sm lo hi ss HSM.out ss.length)
  clear hol hx6 CL CH BL5 BH5 BP5 X5 hb5 hb6 OS5
  have CP := cell_of_blk BP6.out
  go_wp2_with fail
  refine (dists_any (plst lo hi ss ss.length) _ gl cl (e, f, 0) w6 OL.out HPL.out HLS.out HPB.out).mono ?_
  rintro _ w7 ⟨ge, ce, L, rfl, hoe, hpe, hre, hx7⟩
  have X7 := Lib.hid (X6.out.trans hx7); have OL7 := Lib.hid (kept_ext hx7 OL.out); have BP7 := Lib.hid (Ext.blk hx7 BP6.out)
  have HA7 := Lib.hid (HA.out.ext hx7); have OE := Lib.hid hoe; have PE := Lib.hid hpe; have RE := Lib.hid hre
  have CL := cell_of_blk (Ext.blk hx7 BL6.out)
  have CH := cell_of_blk (Ext.blk hx7 BH6.out)
  have CP := cell_of_blk BP7.out
  clear hoe hpe hre hx7 BL6 BH6 BP6 OL X6 HA
  go_wp2_with fail
  refine (impl_nearest scap (p := (e, f, 0)) w7 HA7.out HPB.out hk2.1 (by omega)).mono ?_
  rintro _ w8 ⟨us, R, hp8, ha8, _, hk8, hR8, g8, c8, rfl, ho8, hx8⟩
  obtain ⟨hlen8, hmap8⟩ := near_all hp8 ha8 hk8 hR8 (fun x hx => Int.lt_trans (dsq_lt (x := e) (y := f) HPB.out.1 HPB.out.2 (HLS.out x hx)) (by decide)) PE.out RE.out
  have X8 := Lib.hid (X7.out.trans hx8); have OL8 := Lib.hid (kept_ext hx8 OL7.out); have BP8 := Lib.hid (Ext.blk hx8 BP7.out); have OE8 := Lib.hid (kept_ext hx8 OE.out)
  have O8 := Lib.hid ho8
  have HAM := Lib.hid (among_any us _ R _ _ _ _ _ _ w8 ho8 OL8.out HPL.out hp8)
  have HMAP := Lib.hid hmap8
  have HUS := Lib.hid (show ∀ x ∈ us, Sm x from fun x hx => HLS.out x (hp8.mem_iff.1 (List.mem_append.2 (.inl hx))))
  clear hp8 ha8 hk8 hR8 ho8 hx8 hmap8 CL CH CP OL7 OE OL8 X7 HA7 BP7 PE RE HLS
  have hmin : min (k : Int) ((plst lo hi ss ss.length).length : Int) = (us.length : Int) := by omega
  generalize plst lo hi ss ss.length = ls at *
  have hl8 : us.length ≤ 65536 := by have := HPL.out; omega
  have HLE := Lib.hid hlen8
  have hite : (if (ls.length : Int) < (k : Int) then (ls.length : Int) else (k : Int)) = (us.length : Int) := by split <;> omega
  have hite2 : (if ls.length < k then (ls.length : Int) else (k : Int)) = (us.length : Int) := by split <;> omega
  clear hlen8 hmin
  go_wp2_with fail
  refine HAM.out.mono ?_
  rintro _ w9 ⟨rfl, hx9⟩
  have X9 := Lib.hid hx9
  clear hx9 hite hite2 HAM HLE
  go_wp2_with fail
  go_loopg [81] us.length (fun r iv wr => ∃ (i : Nat), r + i = us.length ∧ iv = .int .i64 (i : Nat) ∧ Ext w8 wr)
  case atStart => exact ⟨0, by omega, rfl, X9.out⟩
  case round =>
    obtain ⟨i, hR, rfl, hx⟩ := hrel
    by_cases hlt : i < us.length
    · obtain ⟨u, hxu⟩ : ∃ x, us[i]? = some x := ⟨_, List.getElem?_eq_getElem hlt⟩
      obtain ⟨d0, d1, d2⟩ := ownI_cells (kept_ext hx O8.out) hxu
      have hsm := HUS.out u (List.mem_of_getElem? hxu)
      have XR := Lib.hid hx
      obtain ⟨dv, hdv⟩ : ∃ dv, dv = dsq e f u := ⟨_, rfl⟩
      have HD := Lib.hid (show ∀ W, Calls Tryd.prog 20 #[.agg #[.int .i64 u.1, .int .i64 u.2.1, .int .i64 u.2.2], .agg #[.int .i64 e, .int .i64 f, .int .i64 0]] W fun r w' => r = .returned (.int .i64 dv) ∧ Ext W w' from fun W => by rw [hdv]; exact sdist_any u (e, f, 0) W ⟨by have := hsm.1; omega, by have := hsm.2; omega⟩ HPB.out)
      have HW := Lib.hid (show L[i]? = some dv from by
        have h1 : (us.map (dsq e f))[i]? = some dv := by rw [List.getElem?_map, hxu, hdv]; rfl
        have hm : us.map (dsq e f) = L.take us.length := HMAP.out
        rw [hm, List.getElem?_take, if_pos hlt] at h1
        exact h1)
      have hil : i < ls.length := by have h1 := OE8.out.1; rw [ints_len, Nat.mul_one] at h1; have h2 := (List.getElem?_eq_some_iff.1 HW.out).1; omega
      have X10 := Lib.hid (hx.alloc (.cells #[.int .i64 u.1, .int .i64 u.2.1, .int .i64 u.2.2] 25))
      have BU := Lib.hid (blk_new wr (.cells #[.int .i64 u.1, .int .i64 u.2.1, .int .i64 u.2.2] 25))
      clear hx hsm hdv hxu
      go_wp2_with fail
      generalize wr.alloc (.cells #[.int .i64 u.1, .int .i64 u.2.1, .int .i64 u.2.2] 25) = wb at *
      have L1 := fun l : Later wb => cell_of_blk (Ext.blk l.h BU.out)
      have L2 := fun l : Later wb => cell_of_blk (Ext.blk (X10.out.trans l.h) BP8.out)
      have L3 := fun l : Later wb => ownJ_cell (kept_ext (X10.out.trans l.h) OE8.out) HW.out
      clear d0 d1 d2
      refine region_ext (by kernel_rfl) (by kernel_rfl) (fun hc => ?_)
      repeat (go_big_quiet_step (exact Calls.later (HD.out _)))
      refine wpQuiet_nil ?_
      rintro w3 ⟨⟨_, hw3⟩, rfl⟩
      have X11 := Lib.hid (X10.out.trans hw3)
      clear L1 L2 L3 hc hw3 BU HD HW XR X10
      go_wp2_with fail
      go_roundg (us.length - (i + 1))
      case measure => omega
      case rel => exact ⟨i + 1, by omega, rfl, X11.out⟩
    · have hi : i = us.length := by omega
      subst hi
      have XR := Lib.hid (X8.out.trans hx)
      clear hx hlt
      go_wp2_with fail
      refine (valid_zero _).mono ?_
      rintro _ wv ⟨rfl, hxv⟩
      have FIN := Lib.hid (XR.out.trans hxv)
      clear hxv
      go_wp2
      exact bodyPost_ret (v := .bool true) (by simp [results, Tryd.results4, go_sem]) rfl ⟨rfl, FIN.out⟩

end Go.Proofs.YtmmmknmncdlopaaDoor
