/- FnExactInBound answers true. Conditions: the arguments' kinds; the error's variable holds a pointer. -/
import Derived.Test.YtmmmknmncdlopaaDoorSpecI
import Derived.Test.YtmmmknmncdlopaaDoorItemsC
namespace Go.Proofs.YtmmmknmncdlopaaDoor
open Go.ChangeShapes Go.WideShapes Go.ChangeAt Go.RowKit
open Go.Proofs.YtmmmknmncdlopaaDoor.F

theorem Shorts.form {w : World} {v : Value} {zs : List Int} (h : Shorts w v zs) : ∃ a cap, v = .slice a zs.length cap ∧ zs.length ≤ maxLen := by
  obtain ⟨a, cap, rfl, h1, h2, _⟩ := h
  exact ⟨a, cap, rfl, Nat.le_trans h1 h2⟩
theorem Shorts.ext {w w' : World} {v : Value} {zs : List Int} (h : Shorts w v zs) (hx : Ext w w') : Shorts w' v zs := by
  obtain ⟨a, cap, rfl, h1, h2, h3⟩ := h
  refine ⟨a, cap, rfl, h1, h2, fun hne => ?_⟩
  obtain ⟨b, off, rfl, hc⟩ := h3 hne
  exact ⟨b, off, rfl, fun i x hi => ⟨hx.cell (hc i x hi).1, (hc i x hi).2⟩⟩
theorem valid_zero (w : World) : Calls Tryd.prog 15 #[.agg #[.int .i64 0, .int .i64 0, .int .i64 0]] w fun e w' => e = .returned (.bool true) ∧ Ext w w' := by
  have := valid_any 0 0 0 w (by omega) (by omega) (by omega) (by omega) (by omega) (by omega)
  simpa using this
def Short (a : Int) : Prop := -32768 ≤ a ∧ a ≤ 32767
theorem box_small {a b c d : Int} (ha : Short a) (hb : Short b) (hc : Short c) (hd : Short d) : (boxLo a b c d).1.natAbs ≤ 65536 ∧ (boxLo a b c d).2.1.natAbs ≤ 65536 ∧ (boxHi a b c d).1.natAbs ≤ 65536 ∧ (boxHi a b c d).2.1.natAbs ≤ 65536 := by
  unfold Short at *
  refine ⟨?_, ?_, ?_, ?_⟩
  · show (min a c).natAbs ≤ 65536; omega
  · show (min b d).natAbs ≤ 65536; omega
  · show (max a c).natAbs ≤ 65536; omega
  · show (max b d).natAbs ≤ 65536; omega
theorem prt_no (p q : T3) : prt p q false = fun x => (fun _ : T3 => true) x && inb p q x := by
  funext x; unfold prt; simp
theorem prt_yes (p q : T3) : prt p q true = fun x => evn x && inb p q x := by
  funext x; unfold prt; rw [Bool.and_comm]; simp
theorem ErrAt.intro {w w' : World} {ea : Addr} (h : w.cell? ⟨0, 0, none⟩ = some (.iface 128 (.pointer (some ea)))) (hx : Ext w w') : w'.cell? ⟨0, 0, none⟩ = some (.iface 128 (.pointer (some ea))) := hx.cell h

theorem part_le {us ls : List T3} {f : T3 → Bool} {n : Nat} (h : us.Perm (ls.filter f)) (h1 : ls.length ≤ n) : us.length ≤ n := by
  have := h.length_eq
  have := List.length_filter_le f ls
  omega
/-- Two items in new blocks. -/
theorem two_new (w : World) (lo hi : T3) : ∃ w', w' = (w.alloc (.cells #[.int .i64 lo.1, .int .i64 lo.2.1, .int .i64 lo.2.2] 25)).alloc (.cells #[.int .i64 hi.1, .int .i64 hi.2.1, .int .i64 hi.2.2] 25) ∧ Ext w w' ∧
    w'.heap[w.heap.size]? = some (.cells #[.int .i64 lo.1, .int .i64 lo.2.1, .int .i64 lo.2.2] 25 (0, 0)) ∧ w'.heap[w.heap.size + 1]? = some (.cells #[.int .i64 hi.1, .int .i64 hi.2.1, .int .i64 hi.2.2] 25 (0, 0)) := by
  refine ⟨_, rfl, ((Ext.refl w).alloc _).alloc _, blk_old (blk_new w _) _, ?_⟩
  have := blk_new (w.alloc (.cells #[.int .i64 lo.1, .int .i64 lo.2.1, .int .i64 lo.2.2] 25)) (.cells #[.int .i64 hi.1, .int .i64 hi.2.1, .int .i64 hi.2.2] 25)
  rw [World.size_alloc] at this
  exact this

set_option maxRecDepth 8000 in
set_option maxHeartbeats 6400000 in
theorem inbound_law (a b c d : Int) (v : Value) (zs : List Int) (e f g h : Int) (w : World) (ea : Addr) (ha : Short a) (hb : Short b) (hc : Short c) (hd : Short d) (hv : Shorts w v zs) (he : Short e) (hf : Short f) (hg : Short g) (hh : Short h)
    (herr : w.cell? ⟨0, 0, none⟩ = some (.iface 128 (.pointer (some ea)))) :
    Calls Tryd.prog 9 #[.int .i16 a, .int .i16 b, .int .i16 c, .int .i16 d, v, .int .i16 e, .int .i16 f, .int .i16 g, .int .i16 h] w fun e w' => e = .returned (.bool true) ∧ Ext w w' := by
  obtain ⟨a4, cap, rfl, hlen⟩ := hv.form
  unfold maxLen at hlen
  by_cases hbig : 2147483647 < zs.length
  · have d1 : decide ((zs.length : Int) > 2147483647) = true := by simp; omega
    have d2 : decide ((2147483647 : Int) < zs.length) = true := by simp; omega
    have d3 : decide (2147483647 < zs.length) = true := by simp; omega
    clear hv herr
    go_enter Tryd.func9, Tryd.ntmps9
    go_wp2
    exact bodyPost_ret (v := .bool true) (by simp [results, Tryd.results9, go_sem]) rfl ⟨rfl, Ext.refl _⟩
  have d1 : decide ((zs.length : Int) > 2147483647) = false := by simp; omega
  have d2 : decide ((2147483647 : Int) < zs.length) = false := by simp; omega
  have d3 : decide (2147483647 < zs.length) = false := by simp; omega
  have HV := Lib.hid hv; have HE := Lib.hid herr
  have HB1 := Lib.hid (box_small ha hb hc hd); have HB2 := Lib.hid (box_small he hf hg hh)
  have HLN := Lib.hid (show zs.length ≤ 2147483647 by omega)
  have B1 := Lib.hid (fun W => box_any a b c d W ha hb hc hd)
  have B2 := Lib.hid (fun W => box_any e f g h W he hf hg hh)
  clear hv herr ha hb hc hd he hf hg hh hbig hlen
  generalize boxLo a b c d = lo at *
  generalize boxHi a b c d = hi at *
  generalize boxLo e f g h = p at *
  generalize boxHi e f g h = q at *
  go_enter Tryd.func9, Tryd.ntmps9
  go_wp2_with fail
  refine (B1.out _).mono ?_
  rintro _ w1 ⟨rfl, hx1⟩
  go_wp2_with fail
  obtain ⟨w2, h2, x2, bl, bh⟩ := two_new w1 lo hi
  rw [← h2]
  have X2 := Lib.hid (hx1.trans x2); have BL := Lib.hid bl; have BH := Lib.hid bh
  clear hx1 d1 d2 d3 h2 x2 bl bh
  refine (B2.out _).mono ?_
  rintro _ w3 ⟨rfl, hx3⟩
  go_wp2_with fail
  obtain ⟨w4, h4, x4, bp, bq⟩ := two_new w3 p q
  rw [← h4]
  have X34 := Lib.hid (hx3.trans x4)
  have X4 := Lib.hid (X2.out.trans X34.out); have BP := Lib.hid bp; have BQ := Lib.hid bq; have BL4 := Lib.hid (Ext.blk X34.out BL.out); have BH4 := Lib.hid (Ext.blk X34.out BH.out)
  clear hx3 h4 x4 bp bq BL BH X2 X34 B1 B2
  refine (steps_any _ zs w4 (HV.out.ext X4.out) HLN.out).mono ?_
  rintro _ w5 ⟨sg, scap, rfl, hos, hx5⟩
  have HSM := Lib.hid (steps_sm HV.out)
  have HSL := Lib.hid (steps_len zs)
  generalize steps zs = ss at *
  have X5 := Lib.hid (X4.out.trans hx5); have OS := Lib.hid (ownS_at hos)
  have BL5 := Lib.hid (Ext.blk hx5 BL4.out); have BH5 := Lib.hid (Ext.blk hx5 BH4.out); have BP5 := Lib.hid (Ext.blk hx5 BP.out); have BQ5 := Lib.hid (Ext.blk hx5 BQ.out)
  have CL := cell_of_blk BL5.out
  have CH := cell_of_blk BH5.out
  clear hos hx5 BL4 BH4 BP BQ X4
  go_wp2_with fail
  refine (play_any scap w5 OS.out (by have := HSL.out; omega)).mono ?_
  rintro _ w6 ⟨gd, cd, gl, cl, rfl, _, hol, hx6⟩
  have X6 := Lib.hid (X5.out.trans hx6); have OL := Lib.hid hol
  have BL6 := Lib.hid (Ext.blk hx6 BL5.out); have BH6 := Lib.hid (Ext.blk hx6 BH5.out); have BP6 := Lib.hid (Ext.blk hx6 BP5.out); have BQ6 := Lib.hid (Ext.blk hx6 BQ5.out)
  have HA := Lib.hid (show Asked w6 lo hi ss sg ea from ⟨HB1.out, OS.out.ext hx6, by have := HSL.out; omega, HSM.out, ErrAt.intro HE.out X6.out⟩)
  have HPL := Lib.hid (show (plst lo hi ss ss.length).length ≤ 65536 from by have := plst_len lo hi ss ss.length; have := HSL.out; omega)
  clear hol hx6 CL CH BL5 BH5 BP5 BQ5 X5 OS
  go_wp2_with fail
  have HI := Lib.hid (fun W (hW : Ext w6 W) => impl_inbound scap W (HA.out.ext hW) HB2.out)
  have HP := Lib.hid (fun W (hW : Ext w6 W) => part_any (plst lo hi ss ss.length) _ gl cl p q false W (kept_ext hW OL.out) HPL.out)
  have HS := Lib.hid (show ∀ W : World, Ext w6 W → (W.cell? ⟨w1.heap.size, 0, none⟩ = some (.int .i64 lo.1) ∧ W.cell? ⟨w1.heap.size, 1, none⟩ = some (.int .i64 lo.2.1) ∧ W.cell? ⟨w1.heap.size, 2, none⟩ = some (.int .i64 lo.2.2) ∧ W.cell? ⟨w1.heap.size + 1, 0, none⟩ = some (.int .i64 hi.1) ∧ W.cell? ⟨w1.heap.size + 1, 1, none⟩ = some (.int .i64 hi.2.1) ∧ W.cell? ⟨w1.heap.size + 1, 2, none⟩ = some (.int .i64 hi.2.2) ∧ W.cell? ⟨w3.heap.size, 0, none⟩ = some (.int .i64 p.1) ∧ W.cell? ⟨w3.heap.size, 1, none⟩ = some (.int .i64 p.2.1) ∧ W.cell? ⟨w3.heap.size, 2, none⟩ = some (.int .i64 p.2.2) ∧ W.cell? ⟨w3.heap.size + 1, 0, none⟩ = some (.int .i64 q.1) ∧ W.cell? ⟨w3.heap.size + 1, 1, none⟩ = some (.int .i64 q.2.1) ∧ W.cell? ⟨w3.heap.size + 1, 2, none⟩ = some (.int .i64 q.2.2)) from fun W hW => by
    have c1 := cell_of_blk (Ext.blk hW BL6.out); have c2 := cell_of_blk (Ext.blk hW BH6.out); have c3 := cell_of_blk (Ext.blk hW BP6.out); have c4 := cell_of_blk (Ext.blk hW BQ6.out)
    exact ⟨c1 0, c1 1, c1 2, c2 0, c2 1, c2 2, c3 0, c3 1, c3 2, c4 0, c4 1, c4 2⟩)
  clear BL6 BH6 BP6 BQ6 HA
  go_region_held3 (fun W => W.cell? ⟨w1.heap.size, 0, none⟩ = some (.int .i64 lo.1) ∧ W.cell? ⟨w1.heap.size, 1, none⟩ = some (.int .i64 lo.2.1) ∧ W.cell? ⟨w1.heap.size, 2, none⟩ = some (.int .i64 lo.2.2) ∧ W.cell? ⟨w1.heap.size + 1, 0, none⟩ = some (.int .i64 hi.1) ∧ W.cell? ⟨w1.heap.size + 1, 1, none⟩ = some (.int .i64 hi.2.1) ∧ W.cell? ⟨w1.heap.size + 1, 2, none⟩ = some (.int .i64 hi.2.2) ∧ W.cell? ⟨w3.heap.size, 0, none⟩ = some (.int .i64 p.1) ∧ W.cell? ⟨w3.heap.size, 1, none⟩ = some (.int .i64 p.2.1) ∧ W.cell? ⟨w3.heap.size, 2, none⟩ = some (.int .i64 p.2.2) ∧ W.cell? ⟨w3.heap.size + 1, 0, none⟩ = some (.int .i64 q.1) ∧ W.cell? ⟨w3.heap.size + 1, 1, none⟩ = some (.int .i64 q.2.1) ∧ W.cell? ⟨w3.heap.size + 1, 2, none⟩ = some (.int .i64 q.2.2))
    (first | exact HS.out _ XN.out | exact HS.out _ ((Ext.refl _).drew))
    (first
      | (go_at_call 14
         refine (HI.out _ (by first | exact XN.out | exact (Ext.refl _).drew)).mono ?_
         rintro _ wi ⟨us, hpi, gi, ci, rfl, hoi, hxi⟩
         have XN := Lib.hid (show Ext w6 wi from Ext.trans (by first | exact XN.out | exact (Ext.refl _).drew) hxi)
         have OI := Lib.hid hoi
         have PI := Lib.hid hpi
         try have OP := Lib.hid (kept_ext hxi OP.out)
         clear hpi hoi hxi)
      | (go_at_call 23
         refine (HP.out _ (by first | exact XN.out | exact (Ext.refl _).drew)).mono ?_
         rintro _ wp ⟨gp, cp, rfl, hop, hxp⟩
         have XN := Lib.hid (show Ext w6 wp from Ext.trans (by first | exact XN.out | exact (Ext.refl _).drew) hxp)
         have OP := Lib.hid hop
         try have OI := Lib.hid (kept_ext hxp OI.out)
         clear hop hxp)
      | (go_at_call 13
         refine (perm_any us _ _ _ _ _ _ _ _ OI.out OP.out (part_le PI.out HPL.out) (by rw [prt_no]; exact PI.out)).mono ?_
         rintro _ ws ⟨rfl, hxs⟩
         have XN := Lib.hid (show Ext w6 ws from XN.out.trans hxs)
         clear hxs)
      | (go_at_call 15
         refine (valid_zero _).mono ?_
         rintro _ wv ⟨rfl, hxv⟩
         have XN := Lib.hid (show Ext w6 wv from XN.out.trans hxv)
         clear hxv))
  all_goals
    have FIN := Lib.hid (X6.out.trans XN.out)
    go_wp2
    exact bodyPost_ret (v := .bool true) (by simp [results, Tryd.results9, go_sem]) rfl ⟨rfl, FIN.out⟩

end Go.Proofs.YtmmmknmncdlopaaDoor
