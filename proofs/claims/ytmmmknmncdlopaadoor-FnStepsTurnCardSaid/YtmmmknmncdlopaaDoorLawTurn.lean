/- FnStepsTurn answers true. Conditions: the arguments' kinds; the error's variable holds a pointer. -/
import Derived.Test.YtmmmknmncdlopaaDoorLawInb
namespace Go.Proofs.YtmmmknmncdlopaaDoor
open Go.ChangeShapes Go.WideShapes Go.ChangeAt Go.RowKit
open Go.Proofs.YtmmmknmncdlopaaDoor.F

/-- The steps, all of which put in. -/
def tos (ss : List S4) : List S4 := ss.map fun s => (false, s.2)
theorem tos_len (ss : List S4) : (tos ss).length = ss.length := List.length_map _
theorem tos_get {ss : List S4} {i : Nat} {s : S4} (h : ss[i]? = some s) : (tos ss)[i]? = some (false, s.2) := by unfold tos; rw [List.getElem?_map, h]; rfl
theorem tos_take {ss : List S4} {i : Nat} {s : S4} (h : ss[i]? = some s) : (tos ss).take (i + 1) = (tos ss).take i ++ [(false, s.2)] := by rw [List.take_add_one, tos_get h]; rfl
theorem plst_tos (lo hi : T3) (ss : List S4) (h : ∀ s ∈ ss, s.1 = false) : ∀ i, plst lo hi ss i = ((ss.take i).map (·.2)).filter (inb lo hi)
  | 0 => by simp [plst]
  | i + 1 => by
    cases e : ss[i]? with
    | none =>
      have hl := List.getElem?_eq_none_iff.1 e
      have t : ss.take (i + 1) = ss.take i := by rw [List.take_of_length_le (show ss.length ≤ i + 1 by omega), List.take_of_length_le hl]
      rw [plst, e, t]
      exact plst_tos lo hi ss h i
    | some s =>
      have hs := h s (List.mem_of_getElem? e)
      obtain ⟨o, x⟩ := s
      dsimp only at hs
      subst hs
      rw [plst_succ e, plst_tos lo hi ss h i, List.take_add_one, e]
      simp only [Option.toList_some, List.map_append, List.filter_append, List.map_cons, List.map_nil]
      cases hb : inb lo hi x
      · rw [pstep_off _ hb]; simp [hb]
      · rw [pstep_in _ hb]; simp [hb]
theorem plst_turn (lo hi : T3) (ss : List S4) : (plst lo hi (tos ss) ss.length).Perm (plst lo hi (tos ss).reverse ss.length) := by
  have h1 : ∀ s ∈ tos ss, s.1 = false := fun s hs => by
    obtain ⟨t, _, rfl⟩ := List.mem_map.1 hs; rfl
  rw [plst_tos lo hi _ h1, plst_tos lo hi _ (fun s hs => h1 s (List.mem_reverse.1 hs)), List.take_of_length_le (by rw [tos_len]; exact Nat.le_refl _), List.take_of_length_le (by rw [List.length_reverse, tos_len]; exact Nat.le_refl _), List.map_reverse]
  exact ((List.reverse_perm _).symm).filter _

/-- The rows while the first list is made. -/
structure TI (W wr : World) (ss : List S4) (i g cap gb sg : Nat) : Prop where
  own : wr.ownsRow W.heap.size 31 4 (.slice (some ⟨g, 0, none⟩) i cap) i (cells4 ((tos ss).take i))
  back : wr.ownsRow W.heap.size 31 4 (.slice (some ⟨gb, 0, none⟩) 0 0) 0 []
  st : StepsAt wr sg ss
  f1 : g ≠ gb
  f2 : g ≠ sg
  ext : Ext W wr
theorem TI.next {W wr w1 w2 : World} {ss : List S4} {i g cap gb sg g3 cap3 H : Nat} {s : S4} (h : TI W wr ss i g cap gb sg) (hs : ss[i]? = some s) (hx : Ext wr w1) (hH : w1.heap.size = H)
    (hown : w2.ownsRow W.heap.size 31 4 (.slice (some ⟨g3, 0, none⟩) (i + 1) cap3) (i + 1) (cells4 ((tos ss).take i) ++ [.bool false, .int .i64 s.2.1, .int .i64 s.2.2.1, .int .i64 s.2.2.2])) (hg : w1.grownBy w2 (some g)) (ha : some g = some g3 ∨ g3 = H) :
    TI W w2 ss (i + 1) g3 cap3 gb sg := by
  have hb := own_lt h.back
  have hsz := hx.size
  have kb : w2.heap[gb]? = wr.heap[gb]? := (hg.block gb (by omega) (fun e => h.f1 (Option.some.inj e).symm)).trans (hx.block gb hb.2)
  have hsg : sg < wr.heap.size := by obtain ⟨cur, h0, _⟩ := h.st; exact (Array.getElem?_eq_some_iff.1 h0).1
  have ks : w2.heap[sg]? = wr.heap[sg]? := (hg.block sg (by omega) (fun e => h.f2 (Option.some.inj e).symm)).trans (hx.block sg hsg)
  refine ⟨?_, own_keep h.back kb, ?_, ?_, ?_, Below.grown (h.ext.trans hx) hg (h.ext.trans hx).size (fun k hk => by injection hk with hk; rw [← hk]; exact (own_lt h.own).1)⟩
  · rw [tos_take hs, cells4_append]; exact hown
  · obtain ⟨cur, h0, h1⟩ := h.st
    exact ⟨cur, ks.trans h0, h1⟩
  · rcases ha with ha | ha
    · injection ha with ha; rw [← ha]; exact h.f1
    · omega
  · rcases ha with ha | ha
    · injection ha with ha; rw [← ha]; exact h.f2
    · omega
/-- The rows while the second list is made. -/
structure TJ (W wr : World) (L : List S4) (n k g cap gb capb : Nat) : Prop where
  own : wr.ownsRow W.heap.size 31 4 (.slice (some ⟨g, 0, none⟩) n cap) n (cells4 L)
  back : wr.ownsRow W.heap.size 31 4 (.slice (some ⟨gb, 0, none⟩) k capb) k (cells4 (L.reverse.take k))
  f1 : g ≠ gb
  ext : Ext W wr
theorem TJ.next {W wr w1 w2 : World} {L : List S4} {n k g cap gb capb g3 cap3 H : Nat} {s : S4} (h : TJ W wr L n k g cap gb capb) (hs : L.reverse[k]? = some s) (hx : Ext wr w1) (hH : w1.heap.size = H)
    (hown : w2.ownsRow W.heap.size 31 4 (.slice (some ⟨g3, 0, none⟩) (k + 1) cap3) (k + 1) (cells4 (L.reverse.take k) ++ [.bool s.1, .int .i64 s.2.1, .int .i64 s.2.2.1, .int .i64 s.2.2.2])) (hg : w1.grownBy w2 (some gb)) (ha : some gb = some g3 ∨ g3 = H) :
    TJ W w2 L n (k + 1) g cap g3 cap3 := by
  have hb := own_lt h.own
  have hsz := hx.size
  have kb : w2.heap[g]? = wr.heap[g]? := (hg.block g (by omega) (fun e => h.f1 (Option.some.inj e))).trans (hx.block g hb.2)
  refine ⟨own_keep h.own kb, ?_, ?_, Below.grown (h.ext.trans hx) hg (h.ext.trans hx).size (fun k hk => by injection hk with hk; rw [← hk]; exact (own_lt h.back).1)⟩
  · rw [List.take_add_one, hs, cells4_append]; exact hown
  · rcases ha with ha | ha
    · injection ha with ha; rw [← ha]; exact h.f1
    · omega
theorem ownS_cells {w : World} {base g cap n : Nat} {L : List S4} (h : w.ownsRow base 31 4 (.slice (some ⟨g, 0, none⟩) n cap) n (cells4 L)) {i : Nat} {s : S4} (hs : L[i]? = some s) :
    w.cell? ⟨g, i * 4, none⟩ = some (.bool s.1) ∧ w.cell? ⟨g, i * 4 + 1, none⟩ = some (.int .i64 s.2.1) ∧ w.cell? ⟨g, i * 4 + 2, none⟩ = some (.int .i64 s.2.2.1) ∧ w.cell? ⟨g, i * 4 + 3, none⟩ = some (.int .i64 s.2.2.2) := by
  have hl : L.length = n := by have := h.1; rw [cells4_length] at this; omega
  subst hl
  exact (ownS_at h).cells hs

set_option maxRecDepth 8000 in
set_option maxHeartbeats 6400000 in
theorem turn_law (a b c d : Int) (v : Value) (zs : List Int) (e f g h : Int) (w : World) (ea : Addr) (ha : Short a) (hb : Short b) (hc : Short c) (hd : Short d) (hv : Shorts w v zs) (he : Short e) (hf : Short f) (hg : Short g) (hh : Short h)
    (herr : w.cell? ⟨0, 0, none⟩ = some (.iface 128 (.pointer (some ea)))) :
    Calls Tryd.prog 3 #[.int .i16 a, .int .i16 b, .int .i16 c, .int .i16 d, v, .int .i16 e, .int .i16 f, .int .i16 g, .int .i16 h] w fun e w' => e = .returned (.bool true) ∧ Ext w w' := by
  obtain ⟨a4, cap, rfl, hlen⟩ := hv.form
  unfold maxLen at hlen
  by_cases hbig : 2147483647 < zs.length
  · have d1 : decide ((zs.length : Int) > 2147483647) = true := by simp; omega
    have d2 : decide ((2147483647 : Int) < zs.length) = true := by simp; omega
    have d3 : decide (2147483647 < zs.length) = true := by simp; omega
    clear hv herr
    go_enter Tryd.func3, Tryd.ntmps3
    go_wp2
    exact bodyPost_ret (v := .bool true) (by simp [results, Tryd.results3, go_sem]) rfl ⟨rfl, Ext.refl _⟩
  have d1 : decide ((zs.length : Int) > 2147483647) = false := by simp; omega
  have d2 : decide ((2147483647 : Int) < zs.length) = false := by simp; omega
  have d3 : decide (2147483647 < zs.length) = false := by simp; omega
  have HV := Lib.hid hv; have HE := Lib.hid herr
  have HB1 := Lib.hid (box_small ha hb hc hd); have HB2 := Lib.hid (box_small he hf hg hh)
  have HLN := Lib.hid (show zs.length ≤ 2147483647 by omega)
  have B1 := Lib.hid (fun W => box_any a b c d W ha hb hc hd)
  have B2 := Lib.hid (fun W => box_any e f g h W he hf hg hh)
  clear hv herr ha hb hc hd he hf hg hh hbig hlen
  generalize boxLo a b c d = lo at *
  generalize boxHi a b c d = hi at *
  generalize boxLo e f g h = p at *
  generalize boxHi e f g h = q at *
  go_enter Tryd.func3, Tryd.ntmps3
  go_wp2_with fail
  refine (B1.out _).mono ?_
  rintro _ w1 ⟨rfl, hx1⟩
  go_wp2_with fail
  obtain ⟨w2, h2, x2, bl, bh⟩ := two_new w1 lo hi
  rw [← h2]
  have X2 := Lib.hid (hx1.trans x2); have BL := Lib.hid bl; have BH := Lib.hid bh
  clear hx1 d1 d2 d3 h2 x2 bl bh
  refine (B2.out _).mono ?_
  rintro _ w3 ⟨rfl, hx3⟩
  go_wp2_with fail
  obtain ⟨w4, h4, x4, bp, bq⟩ := two_new w3 p q
  rw [← h4]
  have HZ4 := Lib.hid (show w4.heap.size = w3.heap.size + 1 + 1 by rw [h4]; simp)
  have X34 := Lib.hid (hx3.trans x4)
  have X4 := Lib.hid (X2.out.trans X34.out); have BP := Lib.hid bp; have BQ := Lib.hid bq; have BL4 := Lib.hid (Ext.blk X34.out BL.out); have BH4 := Lib.hid (Ext.blk X34.out BH.out)
  clear hx3 h4 x4 bp bq BL BH X2 X34 B1 B2
  have B3 := blk_new w4 (.cells #[] 31)
  have B4 := blk_new (w4.alloc (.cells #[] 31)) (.cells #[] 31)
  have B3 := blk_old B3 (.cells #[] 31)
  rw [World.size_alloc] at B4
  rw [HZ4.out] at B3 B4
  have X0 := ((Ext.refl w4).alloc (.cells #[] 31)).alloc (.cells #[] 31)
  generalize (w4.alloc (.cells #[] 31)).alloc (.cells #[] 31) = wb at *
  refine (steps_any _ zs wb (HV.out.ext (X4.out.trans X0)) HLN.out).mono ?_
  rintro _ w5 ⟨sg, scap, rfl, hos, hx5⟩
  have HSM := Lib.hid (steps_sm HV.out)
  have HSL := Lib.hid (steps_len zs)
  generalize steps zs = ss at *
  have X5 := Lib.hid (X0.trans hx5)
  have hsgl := (own_lt hos).1
  have hwb := (Array.getElem?_eq_some_iff.1 B4).1
  have T0 := Lib.hid (show TI w4 w5 ss 0 (w3.heap.size + 1 + 1) 0 (w3.heap.size + 1 + 1 + 1) sg from
    ⟨⟨rfl, .inr ⟨_, 0, #[], rfl, by have := HZ4.out; omega, Ext.blk hx5 B3, Nat.le_refl _, by simp [maxLen], rfl, rfl⟩⟩, ⟨rfl, .inr ⟨_, 0, #[], rfl, by have := HZ4.out; omega, Ext.blk hx5 B4, Nat.le_refl _, by simp [maxLen], rfl, rfl⟩⟩, ownS_at hos, by omega, by omega, X0.trans hx5⟩)
  clear hos hx5 B3 B4 X0 hsgl hwb
  obtain ⟨i0, hi0, hz0, hz1, hz2⟩ := info_parts infoS
  have INF := Lib.hid (show Tryd.prog.info? 31 = some i0 ∧ i0.zero = some (.agg #[.bool false, .int .i64 0, .int .i64 0, .int .i64 0]) ∧ i0.size = 4 ∧ i0.bytes = 32 from ⟨hi0, hz0, hz1, hz2⟩)
  clear hi0 hz0 hz1 hz2
  go_wp2_with fail
  go_loopg [23, 52] ss.length (fun r sv iv wr => ∃ (i g cap : Nat), r + i = ss.length ∧ iv = .int .i64 (i : Nat) ∧ sv = .slice (some ⟨g, 0, none⟩) i cap ∧ TI w4 wr ss i g cap (w3.heap.size + 1 + 1 + 1) sg)
  case atStart => exact ⟨0, _, 0, by omega, rfl, rfl, T0.out⟩
  case round =>
    obtain ⟨i, g, cap, hR, rfl, rfl, hT⟩ := hrel
    have HT := Lib.hid hT; clear hT T0
    have hsl := HSL.out
    by_cases hlt : i < ss.length
    · obtain ⟨⟨o, x⟩, hs⟩ : ∃ s, ss[i]? = some s := ⟨_, List.getElem?_eq_getElem hlt⟩
      obtain ⟨d0, d1, d2, d3⟩ := HT.out.st.cells hs
      have HSS := Lib.hid hs
      clear hs
      dsimp only at d0 d1 d2 d3
      have hgw : sg < wr.heap.size := by obtain ⟨cur, h0, _⟩ := HT.out.st; exact (Array.getElem?_eq_some_iff.1 h0).1
      go_wp2_with (at_builtin; refine wpList_append_lies _ rfl (.tmp 56) (.tmp 60) 28 rfl w4.heap.size 31 i0 (.agg #[.bool false, .int .i64 0, .int .i64 0, .int .i64 0]) 4 32 Tryd.underlying28 INF.out.1 INF.out.2.1 INF.out.2.2.1 INF.out.2.2.2 rfl (by decide) _ i (cells4 ((tos ss).take i)) rfl (kept_ext ((((Ext.refl wr).alloc (.cells #[.bool o, .int .i64 x.1, .int .i64 x.2.1, .int .i64 x.2.2] 31))).alloc (.cells #[.bool false, .int .i64 x.1, .int .i64 x.2.1, .int .i64 x.2.2] 31)) HT.out.own) ⟨wr.heap.size + 1, 0, none⟩ 1 1 [.bool false, .int .i64 x.1, .int .i64 x.2.1, .int .i64 x.2.2] rfl rfl (World.news_of_block (cs := #[.bool false, .int .i64 x.1, .int .i64 x.2.1, .int .i64 x.2.2]) (t := 31) (fr := (0, 0)) (by have := blk_new (wr.alloc (.cells #[.bool o, .int .i64 x.1, .int .i64 x.2.1, .int .i64 x.2.2] 31)) (.cells #[.bool false, .int .i64 x.1, .int .i64 x.2.1, .int .i64 x.2.2] 31); rw [World.size_alloc] at this; exact this)) (by simp [Value.oneCell']) (by omega) (by simp only [maxLen]; omega) (by omega) (by have := HT.out.ext.size; simp; omega) (wr.heap.size + 2) (by simp) ?_)
      intro g3 cap3 w6 hown hgrow hat hlt6
      have T1 := Lib.hid (HT.out.next HSS.out (((Ext.refl wr).alloc _).alloc _) (by simp) hown hgrow hat)
      clear hown hgrow hat hlt6
      go_wp2
      go_roundg (gk - 1)
      case measure => omega
      case rel => exact ⟨i + 1, g3, cap3, by omega, by go_num, rfl, T1.out⟩
    · obtain rfl : i = ss.length := by omega
      have HTL := Lib.hid (tos_len ss)
      have U0 := Lib.hid (show TJ w4 wr (tos ss) ss.length 0 g cap (w3.heap.size + 1 + 1 + 1) 0 from ⟨by have := HT.out.own; rwa [List.take_of_length_le (by rw [HTL.out]; exact Nat.le_refl _)] at this, HT.out.back, HT.out.f1, HT.out.ext⟩)
      have HSM2 := Lib.hid (show ∀ s ∈ tos ss, Sm s.2 from fun s hs => by
        obtain ⟨t, ht, rfl⟩ := List.mem_map.1 hs; exact HSM.out t ht)
      have HTURN := Lib.hid (fun lo hi => plst_turn lo hi ss)
      clear HT
      generalize hLq : tos ss = L at *
      clear hLq HSM
      have hnz : ss.length ≤ 400 := HSL.out
      generalize ss.length = n at *
      go_wp2_with fail
      go_loopg [24, 27] n (fun r bv iv wr => ∃ (m k gb capb : Nat), r = m ∧ k + m = n ∧ iv = .int .i64 ((m : Int) - 1) ∧ bv = .slice (some ⟨gb, 0, none⟩) k capb ∧ TJ w4 wr L n k g cap gb capb)
      case atStart => exact ⟨n, 0, _, 0, rfl, by omega, rfl, rfl, U0.out⟩
      case round =>
        obtain ⟨m, k, gb, capb, hm, hkm, rfl, rfl, hU⟩ := hrel
        obtain rfl := hm.symm
        have HU := Lib.hid hU; clear hU
        rcases m with _ | m
        · obtain rfl : k = n := by omega
          clear U0
          have OA := Lib.hid HU.out.own; have OB := Lib.hid HU.out.back; have XW := Lib.hid (X4.out.trans HU.out.ext)
          have BL9 := Lib.hid (Ext.blk HU.out.ext BL4.out); have BH9 := Lib.hid (Ext.blk HU.out.ext BH4.out); have BP9 := Lib.hid (Ext.blk HU.out.ext BP.out); have BQ9 := Lib.hid (Ext.blk HU.out.ext BQ.out)
          clear HU
          have HREV : L.reverse.take k = L.reverse := List.take_of_length_le (by rw [List.length_reverse, HTL.out]; exact Nat.le_refl _)
          have A1 := Lib.hid (show Asked wr lo hi L g ea from ⟨HB1.out, ownS_at (base := w4.heap.size) (cap := cap) (by unfold OwnS; rw [HTL.out]; exact OA.out), by rw [HTL.out]; omega, HSM2.out, ErrAt.intro HE.out XW.out⟩)
          have A2 := Lib.hid (show Asked wr lo hi L.reverse gb ea from ⟨HB1.out, ownS_at (base := w4.heap.size) (cap := capb) (by unfold OwnS; rw [List.length_reverse, HTL.out]; have := OB.out; rwa [HREV] at this), by rw [List.length_reverse, HTL.out]; omega, fun s hs => HSM2.out s (List.mem_reverse.1 hs), ErrAt.intro HE.out XW.out⟩)
          clear HREV OA OB BL4 BH4 BP BQ
          have HI1 := Lib.hid (show ∀ W, Ext wr W → Calls Tryd.prog 14 #[.agg #[.int .i64 lo.1, .int .i64 lo.2.1, .int .i64 lo.2.2], .agg #[.int .i64 hi.1, .int .i64 hi.2.1, .int .i64 hi.2.2], .slice (some ⟨g, 0, none⟩) k cap, .agg #[.int .i64 p.1, .int .i64 p.2.1, .int .i64 p.2.2], .agg #[.int .i64 q.1, .int .i64 q.2.1, .int .i64 q.2.2]] W (PermSays ((plst lo hi L k).filter fun x => (fun _ : T3 => true) x && inb p q x) W) from fun W hW => by
            have := impl_inbound cap W (A1.out.ext hW) HB2.out
            rwa [HTL.out] at this)
          have HI2 := Lib.hid (show ∀ W, Ext wr W → Calls Tryd.prog 14 #[.agg #[.int .i64 lo.1, .int .i64 lo.2.1, .int .i64 lo.2.2], .agg #[.int .i64 hi.1, .int .i64 hi.2.1, .int .i64 hi.2.2], .slice (some ⟨gb, 0, none⟩) k capb, .agg #[.int .i64 p.1, .int .i64 p.2.1, .int .i64 p.2.2], .agg #[.int .i64 q.1, .int .i64 q.2.1, .int .i64 q.2.2]] W (PermSays ((plst lo hi L.reverse k).filter fun x => (fun _ : T3 => true) x && inb p q x) W) from fun W hW => by
            have := impl_inbound capb W (A2.out.ext hW) HB2.out
            rwa [List.length_reverse, HTL.out] at this)
          have HPL := Lib.hid (show (plst lo hi L k).length ≤ 65536 from by have := plst_len lo hi L k; omega)
          have HS := Lib.hid (show ∀ W : World, Ext wr W → (W.cell? ⟨w1.heap.size, 0, none⟩ = some (.int .i64 lo.1) ∧ W.cell? ⟨w1.heap.size, 1, none⟩ = some (.int .i64 lo.2.1) ∧ W.cell? ⟨w1.heap.size, 2, none⟩ = some (.int .i64 lo.2.2) ∧ W.cell? ⟨w1.heap.size + 1, 0, none⟩ = some (.int .i64 hi.1) ∧ W.cell? ⟨w1.heap.size + 1, 1, none⟩ = some (.int .i64 hi.2.1) ∧ W.cell? ⟨w1.heap.size + 1, 2, none⟩ = some (.int .i64 hi.2.2) ∧ W.cell? ⟨w3.heap.size, 0, none⟩ = some (.int .i64 p.1) ∧ W.cell? ⟨w3.heap.size, 1, none⟩ = some (.int .i64 p.2.1) ∧ W.cell? ⟨w3.heap.size, 2, none⟩ = some (.int .i64 p.2.2) ∧ W.cell? ⟨w3.heap.size + 1, 0, none⟩ = some (.int .i64 q.1) ∧ W.cell? ⟨w3.heap.size + 1, 1, none⟩ = some (.int .i64 q.2.1) ∧ W.cell? ⟨w3.heap.size + 1, 2, none⟩ = some (.int .i64 q.2.2)) from fun W hW => by
            have c1 := cell_of_blk (Ext.blk hW BL9.out); have c2 := cell_of_blk (Ext.blk hW BH9.out); have c3 := cell_of_blk (Ext.blk hW BP9.out); have c4 := cell_of_blk (Ext.blk hW BQ9.out)
            exact ⟨c1 0, c1 1, c1 2, c2 0, c2 1, c2 2, c3 0, c3 1, c3 2, c4 0, c4 1, c4 2⟩)
          clear BL9 BH9 BP9 BQ9 A1 A2
          go_wp2_with fail
          go_region_held3 (fun W => W.cell? ⟨w1.heap.size, 0, none⟩ = some (.int .i64 lo.1) ∧ W.cell? ⟨w1.heap.size, 1, none⟩ = some (.int .i64 lo.2.1) ∧ W.cell? ⟨w1.heap.size, 2, none⟩ = some (.int .i64 lo.2.2) ∧ W.cell? ⟨w1.heap.size + 1, 0, none⟩ = some (.int .i64 hi.1) ∧ W.cell? ⟨w1.heap.size + 1, 1, none⟩ = some (.int .i64 hi.2.1) ∧ W.cell? ⟨w1.heap.size + 1, 2, none⟩ = some (.int .i64 hi.2.2) ∧ W.cell? ⟨w3.heap.size, 0, none⟩ = some (.int .i64 p.1) ∧ W.cell? ⟨w3.heap.size, 1, none⟩ = some (.int .i64 p.2.1) ∧ W.cell? ⟨w3.heap.size, 2, none⟩ = some (.int .i64 p.2.2) ∧ W.cell? ⟨w3.heap.size + 1, 0, none⟩ = some (.int .i64 q.1) ∧ W.cell? ⟨w3.heap.size + 1, 1, none⟩ = some (.int .i64 q.2.1) ∧ W.cell? ⟨w3.heap.size + 1, 2, none⟩ = some (.int .i64 q.2.2))
            (first | exact HS.out _ XN.out | exact HS.out _ ((Ext.refl _).drew))
            (first
              | (go_at_call_of 14 (Value.slice (some (Addr.mk g 0 none)) k cap)
                 refine (HI1.out _ (by first | exact XN.out | exact (Ext.refl _).drew)).mono ?_
                 rintro _ wi ⟨us, hpi, gi, ci, rfl, hoi, hxi⟩
                 have XN := Lib.hid (show Ext wr wi from Ext.trans (by first | exact XN.out | exact (Ext.refl _).drew) hxi)
                 have OI := Lib.hid hoi
                 have PI := Lib.hid hpi
                 try have OP := Lib.hid (kept_ext hxi OP.out)
                 clear hpi hoi hxi)
              | (go_at_call_of 14 (Value.slice (some (Addr.mk gb 0 none)) k capb)
                 refine (HI2.out _ (by first | exact XN.out | exact (Ext.refl _).drew)).mono ?_
                 rintro _ wp ⟨vs, hpv, gv, cv, rfl, hov, hxv⟩
                 have XN := Lib.hid (show Ext wr wp from Ext.trans (by first | exact XN.out | exact (Ext.refl _).drew) hxv)
                 have OP := Lib.hid hov
                 have PV := Lib.hid hpv
                 try have OI := Lib.hid (kept_ext hxv OI.out)
                 clear hpv hov hxv)
              | (go_at_call 13
                 refine (perm_any us vs _ _ _ _ _ _ _ OI.out OP.out (part_le PI.out HPL.out) (PI.out.trans (((HTURN.out lo hi).filter _).trans PV.out.symm))).mono ?_
                 rintro _ ws ⟨rfl, hxs⟩
                 have XN := Lib.hid (show Ext wr ws from XN.out.trans hxs)
                 clear hxs)
              | (go_at_call 15
                 refine (valid_zero _).mono ?_
                 rintro _ wv ⟨rfl, hxv⟩
                 have XN := Lib.hid (show Ext wr wv from XN.out.trans hxv)
                 clear hxv))
          all_goals
            have FIN := Lib.hid (XW.out.trans XN.out)
            go_wp2
            exact bodyPost_ret (v := .bool true) (by simp [results, Tryd.results3, go_sem]) rfl ⟨rfl, FIN.out⟩
        · obtain ⟨⟨o, x⟩, hs⟩ : ∃ s, L[m]? = some s := ⟨_, List.getElem?_eq_getElem (by rw [HTL.out]; omega)⟩
          obtain ⟨d0, d1, d2, d3⟩ := ownS_cells HU.out.own hs
          have HSS := Lib.hid (show L.reverse[k]? = some (o, x) by rw [List.getElem?_reverse (by rw [HTL.out]; omega), HTL.out, show n - 1 - k = m by omega]; exact hs)
          clear hs U0
          dsimp only at d0 d1 d2 d3
          have hgw : g < wr.heap.size := (own_lt HU.out.own).2
          have hmn : m < n := by omega
          have e1 : (((m + 1 : Nat) : Int) - 1) = (m : Int) := by omega
          rw [e1]
          clear e1
          go_wp2_with (at_builtin; refine wpList_append_lies _ rfl (.tmp 70) (.tmp 75) 28 rfl w4.heap.size 31 i0 (.agg #[.bool false, .int .i64 0, .int .i64 0, .int .i64 0]) 4 32 Tryd.underlying28 INF.out.1 INF.out.2.1 INF.out.2.2.1 INF.out.2.2.2 rfl (by decide) _ k (cells4 (L.reverse.take k)) rfl (kept_ext ((Ext.refl wr).alloc (.cells #[.bool o, .int .i64 x.1, .int .i64 x.2.1, .int .i64 x.2.2] 31)) HU.out.back) ⟨wr.heap.size, 0, none⟩ 1 1 [.bool o, .int .i64 x.1, .int .i64 x.2.1, .int .i64 x.2.2] rfl rfl (World.news_of_block (cs := #[.bool o, .int .i64 x.1, .int .i64 x.2.1, .int .i64 x.2.2]) (t := 31) (fr := (0, 0)) (heap_alloc_new wr _)) (by simp [Value.oneCell']) (by omega) (by simp only [maxLen]; omega) (by omega) (by have := HU.out.ext.size; rw [World.size_alloc]; omega) (wr.heap.size + 1) (by simp) ?_)
          intro g3 cap3 w6 hown hgrow hat hlt6
          have T1 := Lib.hid (HU.out.next HSS.out ((Ext.refl wr).alloc _) (by simp) hown hgrow hat)
          clear hown hgrow hat hlt6
          go_wp2
          go_roundg m
          case measure => omega
          case rel => exact ⟨m, k + 1, g3, cap3, rfl, by omega, by go_num, rfl, T1.out⟩

end Go.Proofs.YtmmmknmncdlopaaDoor
