/- FnExactGrown answers true. Conditions: the arguments' kinds; the error's variable holds a pointer. -/
import Derived.Test.YtmmmknmncdlopaaDoorLawInb
namespace Go.Proofs.YtmmmknmncdlopaaDoor
open Go.ChangeShapes Go.WideShapes Go.ChangeAt Go.RowKit
open Go.Proofs.YtmmmknmncdlopaaDoor.F

theorem ownB_cell {w : World} {base g cap n : Nat} {L : List Bool} (h : w.ownsRow base 4 1 (.slice (some ⟨g, 0, none⟩) n cap) n (bls L)) {i : Nat} {t : Bool} (ht : L[i]? = some t) : w.cell? ⟨g, i, none⟩ = some (.bool t) := by
  have hl : L.length = n := by have := h.1; rw [bls_len] at this; omega
  have hi : i < L.length := (List.getElem?_eq_some_iff.1 ht).1
  rw [h.cellAt i (by omega)]
  unfold bls; rw [List.getElem?_map, ht]; rfl

set_option maxRecDepth 8000 in
set_option maxHeartbeats 6400000 in
theorem grown_law (a b c d : Int) (v : Value) (zs : List Int) (w : World) (ea : Addr) (ha : Short a) (hb : Short b) (hc : Short c) (hd : Short d) (hv : Shorts w v zs)
    (herr : w.cell? ⟨0, 0, none⟩ = some (.iface 128 (.pointer (some ea)))) :
    Calls Tryd.prog 8 #[.int .i16 a, .int .i16 b, .int .i16 c, .int .i16 d, v] w fun e w' => e = .returned (.bool true) ∧ Ext w w' := by
  obtain ⟨a4, cap, rfl, hlen⟩ := hv.form
  unfold maxLen at hlen
  by_cases hbig : 2147483647 < zs.length
  · have d1 : decide ((zs.length : Int) > 2147483647) = true := by simp; omega
    have d2 : decide ((2147483647 : Int) < zs.length) = true := by simp; omega
    have d3 : decide (2147483647 < zs.length) = true := by simp; omega
    clear hv herr
    go_enter Tryd.func8, Tryd.ntmps8
    go_wp2
    exact bodyPost_ret (v := .bool true) (by simp [results, Tryd.results8, go_sem]) rfl ⟨rfl, Ext.refl _⟩
  have d1 : decide ((zs.length : Int) > 2147483647) = false := by simp; omega
  have d2 : decide ((2147483647 : Int) < zs.length) = false := by simp; omega
  have d3 : decide (2147483647 < zs.length) = false := by simp; omega
  have HV := Lib.hid hv; have HE := Lib.hid herr
  have HB1 := Lib.hid (box_small ha hb hc hd)
  have HLN := Lib.hid (show zs.length ≤ 2147483647 by omega)
  have B1 := Lib.hid (fun W => box_any a b c d W ha hb hc hd)
  clear hv herr ha hb hc hd hbig hlen
  generalize boxLo a b c d = lo at *
  generalize boxHi a b c d = hi at *
  go_enter Tryd.func8, Tryd.ntmps8
  go_wp2_with fail
  refine (B1.out _).mono ?_
  rintro _ w1 ⟨rfl, hx1⟩
  go_wp2_with fail
  obtain ⟨w4, h2, x2, bl, bh⟩ := two_new w1 lo hi
  rw [← h2]
  have X4 := Lib.hid (hx1.trans x2); have BL4 := Lib.hid bl; have BH4 := Lib.hid bh
  clear hx1 d1 d2 d3 h2 x2 bl bh B1
  refine (steps_any _ zs w4 (HV.out.ext X4.out) HLN.out).mono ?_
  rintro _ w5 ⟨sg, scap, rfl, hos, hx5⟩
  have HSM := Lib.hid (steps_sm HV.out)
  have HSL := Lib.hid (steps_len zs)
  generalize steps zs = ss at *
  have X5 := Lib.hid (X4.out.trans hx5); have OS := Lib.hid (ownS_at hos)
  have BL5 := Lib.hid (Ext.blk hx5 BL4.out); have BH5 := Lib.hid (Ext.blk hx5 BH4.out)
  have CL := cell_of_blk BL5.out
  have CH := cell_of_blk BH5.out
  clear hos hx5 BL4 BH4 X4
  go_wp2_with fail
  refine (play_any scap w5 OS.out (by have := HSL.out; omega)).mono ?_
  rintro _ w6 ⟨gd, cd, gl, cl, rfl, hod, hol, hx6⟩
  have X6 := Lib.hid (X5.out.trans hx6); have OL := Lib.hid hol; have OD := Lib.hid hod
  have HA := Lib.hid (show Asked w6 lo hi ss sg ea from ⟨HB1.out, OS.out.ext hx6, by have := HSL.out; omega, HSM.out, ErrAt.intro HE.out X6.out⟩)
  have HPL := Lib.hid (show (plst lo hi ss ss.length).length ≤ 65536 from by have := plst_len lo hi ss ss.length; have := HSL.out; omega)
  have HDL := Lib.hid (pdon_len lo hi ss ss.length (Nat.le_refl _))
  have CL := cell_of_blk (Ext.blk hx6 BL5.out)
  have CH := cell_of_blk (Ext.blk hx6 BH5.out)
  have hb6 := (Array.getElem?_eq_some_iff.1 (Ext.blk hx6 BH5.out)).1
  clear hol hod hx6 BL5 BH5 X5 OS
  go_wp2_with fail
  refine (impl_grown scap w6 HA.out).mono ?_
  rintro _ w7 ⟨gg, cg, g2, c2, us, rfl, hog, hou, hpu, hx7⟩
  have X7 := Lib.hid (X6.out.trans hx7); have OG := Lib.hid hog; have OU := Lib.hid hou; have PU := Lib.hid hpu
  have OL7 := Lib.hid (kept_ext hx7 OL.out); have OD7 := Lib.hid (kept_ext hx7 OD.out)
  have dn : ((ss.length : Int) != (ss.length : Int)) = false := by simp
  have HUL := Lib.hid (show us.length ≤ 65536 by rw [PU.out.length_eq]; exact HPL.out)
  clear hog hou hpu hx7 CL CH OL OD X6 hb6 HA
  go_wp2_with fail
  refine (perm_any us _ _ _ _ _ _ _ w7 OU.out OL7.out HUL.out PU.out).mono ?_
  rintro _ w8 ⟨rfl, hx8⟩
  have X8 := Lib.hid (X7.out.trans hx8)
  have OG8 := Lib.hid (kept_ext hx8 OG.out); have OD8 := Lib.hid (kept_ext hx8 OD7.out)
  clear hx8 dn OG OD7 OL7 OU X7
  go_wp2_with fail
  go_loopg [59] ss.length (fun r iv wr => ∃ (i : Nat), r + i = ss.length ∧ iv = .int .i64 (i : Nat) ∧ Ext w8 wr)
  case atStart => exact ⟨0, by omega, rfl, Ext.refl _⟩
  case round =>
    obtain ⟨i, hR, rfl, hx⟩ := hrel
    have HX := Lib.hid hx; clear hx
    have hsl := HSL.out
    by_cases hlt : i < ss.length
    · obtain ⟨b, hb⟩ : ∃ b, (pdon lo hi ss ss.length)[i]? = some b := ⟨_, List.getElem?_eq_getElem (by rw [HDL.out]; exact hlt)⟩
      have e0 := ownB_cell (kept_ext HX.out OG8.out) hb
      have f0 := ownB_cell (kept_ext HX.out OD8.out) hb
      have L0 := fun e : Later wr => e.h.cell e0
      have L1 := fun e : Later wr => e.h.cell f0
      clear hb e0 f0
      go_wp2_with fail
      refine region_ext (by kernel_rfl) (by kernel_rfl) (fun hc => ?_)
      repeat (go_big_quiet_step (fail))
      refine wpQuiet_nil ?_
      rintro w9 ⟨⟨_, hw9⟩, rfl⟩
      clear L0 L1 hc
      have db : (b != b) = false := by simp
      go_wp2
      go_roundg (gk - 1)
      case measure => omega
      case rel => exact ⟨i + 1, by omega, by go_num, HX.out.trans hw9⟩
    · have XF := Lib.hid (X8.out.trans HX.out)
      go_wp2_with fail
      refine (valid_zero _).mono ?_
      rintro _ wv ⟨rfl, hxv⟩
      have FIN := Lib.hid (XF.out.trans hxv)
      clear hxv
      go_wp2
      exact bodyPost_ret (v := .bool true) (by simp [results, Tryd.results8, go_sem]) rfl ⟨rfl, FIN.out⟩

end Go.Proofs.YtmmmknmncdlopaaDoor
