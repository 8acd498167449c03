/- FnExactFindEven answers true. Conditions: the arguments' kinds; the error's variable holds a pointer. -/
import Derived.Test.YtmmmknmncdlopaaDoorLawFind
namespace Go.Proofs.YtmmmknmncdlopaaDoor
open Go.ChangeShapes Go.WideShapes Go.ChangeAt Go.RowKit
open Go.Proofs.YtmmmknmncdlopaaDoor.F

theorem found_even {p lo hi : T3} {ls : List T3} {w w' : World} {e : Ending} {ss : List S4} (hb : ∀ x ∈ ls, (∃ s ∈ ss, s.2 = x) ∧ inb lo hi x = true) (h : FindSays evn p ls w e w') : FoundIn p (ls.filter (prt lo hi true)) w e w' := by
  obtain ⟨⟨rfl, h1⟩ | ⟨x, rfl, h1, hf, h2⟩, hx⟩ := h
  · refine ⟨.inl ⟨rfl, ?_⟩, hx⟩
    rw [List.filter_eq_nil_iff]
    intro a ha
    unfold prt
    simp [h1 a ha]
  · refine ⟨.inr ⟨x, rfl, List.mem_filter.2 ⟨h1, ?_⟩, fun r hr => ?_⟩, hx⟩
    · unfold prt; simp [(hb x h1).2, hf]
    · obtain ⟨hr1, hr2⟩ := List.mem_filter.1 hr
      unfold prt at hr2
      simp only [Bool.and_eq_true, Bool.not_true, Bool.false_or] at hr2
      exact h2 r hr1 hr2.2

set_option maxRecDepth 8000 in
set_option maxHeartbeats 6400000 in
theorem findeven_law (a b c d : Int) (v : Value) (zs : List Int) (e f : Int) (w : World) (ea : Addr) (ha : Short a) (hb : Short b) (hc : Short c) (hd : Short d) (hv : Shorts w v zs) (he : Short e) (hf : Short f)
    (herr : w.cell? ⟨0, 0, none⟩ = some (.iface 128 (.pointer (some ea)))) :
    Calls Tryd.prog 7 #[.int .i16 a, .int .i16 b, .int .i16 c, .int .i16 d, v, .int .i16 e, .int .i16 f] w fun e w' => e = .returned (.bool true) ∧ Ext w w' := by
  obtain ⟨a4, cap, rfl, hlen⟩ := hv.form
  unfold maxLen at hlen
  by_cases hbig : 2147483647 < zs.length
  · have d1 : decide ((zs.length : Int) > 2147483647) = true := by simp; omega
    have d2 : decide ((2147483647 : Int) < zs.length) = true := by simp; omega
    have d3 : decide (2147483647 < zs.length) = true := by simp; omega
    clear hv herr
    go_enter Tryd.func7, Tryd.ntmps7
    go_wp2
    exact bodyPost_ret (v := .bool true) (by simp [results, Tryd.results7, go_sem]) rfl ⟨rfl, Ext.refl _⟩
  have d1 : decide ((zs.length : Int) > 2147483647) = false := by simp; omega
  have d2 : decide ((2147483647 : Int) < zs.length) = false := by simp; omega
  have d3 : decide (2147483647 < zs.length) = false := by simp; omega
  have HV := Lib.hid hv; have HE := Lib.hid herr
  have HB1 := Lib.hid (box_small ha hb hc hd); have HPB := Lib.hid (show ((e, f, 0) : T3).1.natAbs ≤ 65536 ∧ ((e, f, 0) : T3).2.1.natAbs ≤ 65536 from by unfold Short at he hf; exact ⟨by show e.natAbs ≤ 65536; omega, by show f.natAbs ≤ 65536; omega⟩)
  have he1 : -32768 ≤ e ∧ e ≤ 32767 := he
  have hf1 : -32768 ≤ f ∧ f ≤ 32767 := hf
  have HLN := Lib.hid (show zs.length ≤ 2147483647 by omega)
  have B1 := Lib.hid (fun W => box_any a b c d W ha hb hc hd)
  clear hv herr ha hb hc hd he hf hbig hlen
  generalize boxLo a b c d = lo at *
  generalize boxHi a b c d = hi at *
  go_enter Tryd.func7, Tryd.ntmps7
  go_wp2_with fail
  refine (B1.out _).mono ?_
  rintro _ w1 ⟨rfl, hx1⟩
  go_wp2_with fail
  obtain ⟨w4, h2, x2, bl, bh⟩ := two_new w1 lo hi
  rw [← h2]
  have X4 := Lib.hid (hx1.trans x2); have BL4 := Lib.hid bl; have BH4 := Lib.hid bh
  clear hx1 d1 d2 d3 h2 x2 bl bh B1
  refine (steps_any _ zs w4 (HV.out.ext X4.out) HLN.out).mono ?_
  rintro _ w4b ⟨sg, scap, rfl, hos, hx5⟩
  have HSM := Lib.hid (steps_sm HV.out)
  have HSL := Lib.hid (steps_len zs)
  generalize steps zs = ss at *
  have X4b := Lib.hid (X4.out.trans hx5); have OS := Lib.hid (ownS_at hos)
  have CL := cell_of_blk (Ext.blk hx5 BL4.out)
  have CH := cell_of_blk (Ext.blk hx5 BH4.out)
  have hb5 := (Array.getElem?_eq_some_iff.1 (Ext.blk hx5 BH4.out)).1
  have hb6 := (Array.getElem?_eq_some_iff.1 (Ext.blk hx5 BL4.out)).1
  have X5 := Lib.hid (X4b.out.alloc (.cells #[.int .i64 e, .int .i64 f, .int .i64 0] 25))
  have BL5 := Lib.hid (blk_old (Ext.blk hx5 BL4.out) (.cells #[.int .i64 e, .int .i64 f, .int .i64 0] 25))
  have BH5 := Lib.hid (blk_old (Ext.blk hx5 BH4.out) (.cells #[.int .i64 e, .int .i64 f, .int .i64 0] 25))
  have BP5 := Lib.hid (blk_new w4b (.cells #[.int .i64 e, .int .i64 f, .int .i64 0] 25))
  have OS5 := Lib.hid (OS.out.ext ((Ext.refl w4b).alloc (.cells #[.int .i64 e, .int .i64 f, .int .i64 0] 25)))
  clear hos hx5 X4 BL4 BH4 OS X4b
  go_wp2_with fail
  generalize w4b.alloc (.cells #[.int .i64 e, .int .i64 f, .int .i64 0] 25) = w5 at *
  refine (play_any scap w5 OS5.out (by have := HSL.out; omega)).mono ?_
  rintro _ w6 ⟨gd, cd, gl, cl, rfl, _, hol, hx6⟩
  have X6 := Lib.hid (X5.out.trans hx6); have OL := Lib.hid hol
  have BL6 := Lib.hid (Ext.blk hx6 BL5.out); have BH6 := Lib.hid (Ext.blk hx6 BH5.out); have BP6 := Lib.hid (Ext.blk hx6 BP5.out)
  have HA := Lib.hid (show Asked w6 lo hi ss sg ea from ⟨HB1.out, OS5.out.ext hx6, by have := HSL.out; omega, HSM.out, ErrAt.intro HE.out X6.out⟩)
  have HPL := Lib.hid (show (plst lo hi ss ss.length).length ≤ 65536 from by have := plst_len lo hi ss ss.length; have := HSL.out; omega)
  clear hol hx6 CL CH BL5 BH5 BP5 X5 hb5 hb6 OS5
  have CL := cell_of_blk BL6.out
  have CH := cell_of_blk BH6.out
  have CP := cell_of_blk BP6.out
  go_wp2_with fail
  refine (part_any (plst lo hi ss ss.length) _ gl cl lo hi true w6 OL.out HPL.out).mono ?_
  rintro _ w6b ⟨gq, cq, rfl, hoq, hx6b⟩
  have OQ := Lib.hid hoq; have X6b := Lib.hid (X6.out.trans hx6b)
  have HAb := Lib.hid (HA.out.ext hx6b)
  have BP6b := Lib.hid (Ext.blk hx6b BP6.out)
  have CL := cell_of_blk (Ext.blk hx6b BL6.out)
  have CH := cell_of_blk (Ext.blk hx6b BH6.out)
  have CP := cell_of_blk BP6b.out
  clear hoq hx6b HA BL6 BH6 BP6 X6
  go_wp2_with fail
  refine (impl_findeven scap (p := (e, f, 0)) w6b HAb.out HPB.out).mono ?_
  rintro e7 w7 hfs
  obtain ⟨hor, hx7⟩ := found_even (plst_mem lo hi ss ss.length) hfs
  have HLS := Lib.hid (show ∀ x ∈ (plst lo hi ss ss.length).filter (prt lo hi true), Sm x from fun x hx => plst_sm lo hi ss HSM.out ss.length x (List.mem_filter.1 hx).1)
  have HPL := Lib.hid (show ((plst lo hi ss ss.length).filter (prt lo hi true)).length ≤ 65536 from Nat.le_trans (List.length_filter_le _ _) HPL.out)
  have X7 := Lib.hid (X6b.out.trans hx7); have OL7 := Lib.hid (kept_ext hx7 OQ.out); have BP7 := Lib.hid (Ext.blk hx7 BP6b.out)
  clear hfs hx7 CL CH CP BP6b OL OQ X6b HAb
  generalize (plst lo hi ss ss.length).filter (prt lo hi true) = ls at *
  rcases hor with ⟨rfl, rfl⟩ | ⟨x, rfl, hxm, hmin⟩
  · go_wp2_with fail
    refine (valid_zero _).mono ?_
    rintro _ w8 ⟨rfl, hx8⟩
    have FIN := Lib.hid ((X7.out.alloc (.cells #[.int .i64 0, .int .i64 0, .int .i64 0] 25)).trans hx8)
    clear hx8
    go_wp2
    exact bodyPost_ret (v := .bool true) (by simp [results, Tryd.results7, go_sem]) rfl ⟨rfl, FIN.out⟩
  · have HXM := Lib.hid hxm; have HMIN := Lib.hid hmin
    have hln : 0 < ls.length := List.length_pos_of_mem hxm
    have dl : ((ls.length : Int) == 0) = false := by simp; intro h; rw [h] at hln; exact absurd hln (by simp)
    clear hxm hmin
    go_wp2_with fail
    have X8 := Lib.hid (X7.out.alloc (.cells #[.int .i64 x.1, .int .i64 x.2.1, .int .i64 x.2.2] 25))
    have BX := Lib.hid (blk_new w7 (.cells #[.int .i64 x.1, .int .i64 x.2.1, .int .i64 x.2.2] 25))
    have BP8 := Lib.hid (blk_old BP7.out (.cells #[.int .i64 x.1, .int .i64 x.2.1, .int .i64 x.2.2] 25))
    have OL8 := Lib.hid (kept_ext ((Ext.refl w7).alloc (.cells #[.int .i64 x.1, .int .i64 x.2.1, .int .i64 x.2.2] 25)) OL7.out)
    generalize w7.alloc (.cells #[.int .i64 x.1, .int .i64 x.2.1, .int .i64 x.2.2] 25) = w8 at *
    have CX := cell_of_blk BX.out; have CP := cell_of_blk BP8.out
    have hbx := (Array.getElem?_eq_some_iff.1 BX.out).1; have hbp := (Array.getElem?_eq_some_iff.1 BP8.out).1
    have XA := Lib.hid (show Ext w8 (w8.alloc (.cells #[.int .i64 x.1, .int .i64 x.2.1, .int .i64 x.2.2] 25)).drew from ((Ext.refl _).alloc _).drew)
    have OX := Lib.hid (show OwnI (w8.alloc (.cells #[.int .i64 x.1, .int .i64 x.2.1, .int .i64 x.2.2] 25)).drew 0 w8.heap.size 1 [x] from ⟨rfl, .inr ⟨_, 1, _, rfl, Nat.zero_le _, blk_new w8 _, Nat.le_refl _, by simp [maxLen], rfl, rfl⟩⟩)
    have HAM := Lib.hid (among_any [x] ls (ls.erase x) _ _ _ _ _ _ _ OX.out (kept_ext XA.out OL8.out) HPL.out (List.perm_cons_erase HXM.out).symm)
    have HXS := Lib.hid (show x.1.natAbs ≤ 65536 ∧ x.2.1.natAbs ≤ 65536 from by have := HLS.out x HXM.out; exact ⟨by have := this.1; omega, by have := this.2; omega⟩)
    have HDI := Lib.hid (fun W => sdist_any x (e, f, 0) W HXS.out HPB.out)
    have HDS := Lib.hid (fun W (hW : Ext w8 W) => dists_any ls _ gq cq (e, f, 0) W (kept_ext hW OL8.out) HPL.out HLS.out HPB.out)
    clear OL8 OL7 BP7
    go_region_law
      (first
        | (go_simp
           go_at_call 19
           refine HAM.out.mono ?_
           rintro _ wa ⟨rfl, hxa⟩
           have XN := Lib.hid (XA.out.trans hxa)
           have CX := cell_of_blk (Ext.blk XN.out BX.out); have CP := cell_of_blk (Ext.blk XN.out BP8.out)
           clear hxa)
        | (go_simp
           go_at_call 20
           refine (HDI.out _).mono ?_
           rintro _ wd ⟨rfl, hxd⟩
           have XN := Lib.hid (XN.out.trans hxd)
           have CX := cell_of_blk (Ext.blk XN.out BX.out); have CP := cell_of_blk (Ext.blk XN.out BP8.out)
           try have CD := hxd.cell CD
           clear hxd)
        | (go_simp
           go_at_call 17
           refine (HDS.out _ XN.out).mono ?_
           rintro _ we ⟨ge, ce, M, rfl, hoe, hpe, hre, hxe⟩
           have XN := Lib.hid (XN.out.trans hxe)
           have CX := cell_of_blk (Ext.blk XN.out BX.out); have CP := cell_of_blk (Ext.blk XN.out BP8.out)
           have CD := ownJ_cell hoe (least_first hpe hre HXM.out HMIN.out)
           clear hoe hpe hre hxe))
    all_goals
      have FIN := Lib.hid (X8.out.trans XN.out)
      clear CX CP CD
      go_wp2
      exact bodyPost_ret (v := .bool true) (by simp [results, Tryd.results7, go_sem]) rfl ⟨rfl, FIN.out⟩

end Go.Proofs.YtmmmknmncdlopaaDoor
