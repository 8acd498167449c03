/- impl.grow: the tree behind steps. Conditions: small coordinates; the error's variable holds a pointer. -/
import Derived.Test.YtmmmknmncdlopaaDoorGrowA
import Derived.Deep.AppendLies
import Derived.OwnWalk
namespace Go.Proofs.YtmmmknmncdlopaaDoor
open Go.ChangeShapes Go.WideShapes Go.ChangeAt Go.RowKit
open Go.Proofs.YtmmmknmncdlopaaDoor.F

structure GI (W wr : World) (q : Nat) (lo hi : T3) (ss : List S4) (i : Nat) (t : Tr) (g cap : Nat) (sm : Bool) : Prop where
  tree : Tree wr W.heap.size q (I lo.1) (I lo.2.1) (I hi.1) (I hi.2.1) t
  perm : (its t).Perm (plst lo hi ss i)
  own : wr.ownsRow W.heap.size 4 1 (.slice (some ⟨g, 0, none⟩) i cap) i (bls (pdon lo hi ss i))
  far : g ≠ q ∧ g ∉ bks t
  yes : sm = true → t ≠ .nil
  no : sm = false → t = .nil
  ext : Ext W wr

theorem GI.next {W wr w1 w2 w3 : World} {q : Nat} {lo hi : T3} {ss : List S4} {i : Nat} {t t2 : Tr} {g cap g3 cap3 : Nat} {sm sm2 : Bool} {s : S4} {o : Obj} (h : GI W wr q lo hi ss i t g cap sm) (hs : ss[i]? = some s) (hx : Ext wr w1)
    (T2 : Tree w2 W.heap.size q (I lo.1) (I lo.2.1) (I hi.1) (I hi.2.1) t2) (hb : ∀ k ∈ bks t2, k ∈ bks t ∨ w1.heap.size ≤ k) (hm : Mod (q :: bks t) w1 w2) (hp : (its t2).Perm (pstep lo hi s (plst lo hi ss i)).2) (hy : sm2 = true → t2 ≠ .nil) (hn : sm2 = false → t2 = .nil)
    (hown : w3.ownsRow W.heap.size 4 1 (.slice (some ⟨g3, 0, none⟩) (i + 1) cap3) (i + 1) (bls (pdon lo hi ss i) ++ [.bool (pstep lo hi s (plst lo hi ss i)).1])) (hg : (w2.alloc o).grownBy w3 (some g)) (ha : some g = some g3 ∨ g3 = w2.heap.size + 1) :
    GI W w3 q lo hi ss (i + 1) t2 g3 cap3 sm2 := by
  have hgl := own_lt h.own
  have s1 : wr.heap.size ≤ w1.heap.size := hx.size
  have s2 : w1.heap.size ≤ w2.heap.size := hm.size
  have gq : g ∉ q :: bks t := by simp only [List.mem_cons, not_or]; exact h.far
  have g2 : g ∉ bks t2 := fun hm => by
    rcases hb g hm with h1 | h1
    · exact h.far.2 h1
    · omega
  have e2 : Ext w2 (w2.alloc o) := (Ext.refl _).alloc o
  have keep : ∀ j, j < w2.heap.size → j ≠ g → w3.heap[j]? = w2.heap[j]? := fun j hj hne => (hg.block j (by rw [World.size_alloc]; omega) (fun e => hne (Option.some.inj e))).trans (heap_alloc_old w2 o hj)
  refine ⟨?_, by rw [plst_succ hs]; exact hp, ?_, ?_, hy, hn, ?_⟩
  · exact ⟨(keep q T2.lt (Ne.symm h.far.1)).trans T2.hq, T2.at'.frame fun k hk => keep k (T2.at'.lt k hk) (fun e => g2 (e ▸ hk)), T2.nd, T2.nq, T2.base, T2.reg, T2.sm, T2.bd⟩
  · rw [pdon_succ hs, bls_append]; exact hown
  · rcases ha with ha | ha
    · injection ha with ha; subst ha; exact ⟨h.far.1, g2⟩
    · refine ⟨fun e => ?_, fun hm => ?_⟩
      · have := T2.lt; omega
      · have := T2.at'.lt g3 hm; omega
  · have b2 : Below W.heap.size w1 w2 := hm.below (Nat.le_trans h.ext.size s1) fun k hk => by
      rcases List.mem_cons.1 hk with rfl | hk
      · exact T2.base.1
      · exact h.tree.base.2 k hk
    have b3 : Below W.heap.size W w2 := (Below.trans h.ext (Below.mono hx h.ext.size)).trans b2
    have b4 : Below W.heap.size W (w2.alloc o) := Below.alloc b3 (Nat.le_trans (Nat.le_trans h.ext.size s1) s2) o
    exact Below.grown b4 hg (by rw [World.size_alloc]; exact Nat.le_succ_of_le (Nat.le_trans (Nat.le_trans h.ext.size s1) s2)) (fun k hk => by injection hk with hk; subst hk; exact hgl.1)

theorem GI.own2 {W wr w1 w2 : World} {q : Nat} {lo hi : T3} {ss : List S4} {i : Nat} {t : Tr} {g cap : Nat} {sm : Bool} (h : GI W wr q lo hi ss i t g cap sm) (hx : Ext wr w1) (hm : Mod (q :: bks t) w1 w2) (o : Obj) :
    (w2.alloc o).ownsRow W.heap.size 4 1 (.slice (some ⟨g, 0, none⟩) i cap) i (bls (pdon lo hi ss i)) ∧ W.heap.size ≤ (w2.alloc o).heap.size := by
  have hgl := own_lt h.own
  have gq : g ∉ q :: bks t := by simp only [List.mem_cons, not_or]; exact h.far
  have s1 : wr.heap.size ≤ w1.heap.size := hx.size
  refine ⟨kept_ext ((Ext.refl w2).alloc o) (own_keep h.own ((hm.block g (by omega) gq).trans (hx.block g hgl.2))), ?_⟩
  have := h.ext.size; have := hm.size
  rw [World.size_alloc]; omega

theorem gone_step {B q l b r tp : Nat} {t : Tr} {x : T3} {w w' : World} {e : Ending} {ls : List T3} (h : GoneSays B q l b r tp t x w e w') (hne : t ≠ .nil) (hp : (its t).Perm ls) :
    ∃ t2, e = .returned (.bool (ls.contains x)) ∧ Tree w' B q l b r tp t2 ∧ t2 ≠ .nil ∧ (its t2).Perm (ls.erase x) ∧ (∀ k ∈ bks t2, k ∈ bks t ∨ w.heap.size ≤ k) ∧ Mod (q :: bks t) w w' := by
  obtain ⟨⟨h1, rfl, t2, h2, h3, h4, h5⟩ | ⟨h1, rfl, h2⟩, hm⟩ := h
  · have hx : x ∈ ls := hp.mem_iff.1 h1
    refine ⟨t2, by rw [List.contains_iff_mem.2 hx], h2, h3, ?_, h5, hm⟩
    exact (List.Perm.cons_inv ((h4.trans hp).trans (List.perm_cons_erase hx)))
  · have hx : x ∉ ls := fun hm => h1 (hp.mem_iff.2 hm)
    refine ⟨t, ?_, h2, hne, by rw [List.erase_of_not_mem hx]; exact hp, fun k hk => .inl hk, hm⟩
    have : ls.contains x = false := by rw [← Bool.not_eq_true, List.contains_iff_mem]; exact hx
    rw [this]
theorem top_step {B q l b r tp : Nat} {t : Tr} {x : T3} {ea : Addr} {w w' : World} {e : Ending} {ls : List T3} (h : TopSays B q l b r tp t x ea w e w') (hp : (its t).Perm ls) :
    ∃ t2, ((outB x (l, b, r, tp) = false ∧ e = .returned .nilIface ∧ t2 ≠ .nil ∧ (its t2).Perm (ls ++ [x])) ∨ (outB x (l, b, r, tp) = true ∧ e = .returned (.iface 128 (.pointer (some ea))) ∧ t2 = t ∧ (its t2).Perm ls)) ∧ Tree w' B q l b r tp t2 ∧ (∀ k ∈ bks t2, k ∈ bks t ∨ w.heap.size ≤ k) ∧ Mod (q :: bks t) w w' := by
  obtain ⟨⟨h1, rfl, t2, h2, h3, h4, h5⟩ | ⟨h1, rfl, h2⟩, hm⟩ := h
  · exact ⟨t2, .inl ⟨h1, rfl, h3, (h4.trans (hp.cons x)).trans (List.perm_append_singleton x ls).symm⟩, h2, h5, hm⟩
  · exact ⟨t, .inr ⟨h1, rfl, rfl, hp⟩, h2, fun k hk => .inl hk, hm⟩

theorem pstep_out (lo hi x : T3) (l : List T3) : pstep lo hi (true, x) l = (l.contains x, l.erase x) := rfl
theorem pstep_in {lo hi x : T3} (l : List T3) (h : inb lo hi x = true) : pstep lo hi (false, x) l = (true, l ++ [x]) := by
  show (if inb lo hi x = true then _ else _) = _; rw [if_pos h]
theorem pstep_off {lo hi x : T3} (l : List T3) (h : inb lo hi x = false) : pstep lo hi (false, x) l = (false, l) := by
  show (if inb lo hi x = true then _ else _) = _; rw [if_neg (by rw [h]; decide)]

theorem infoB : (Tryd.prog.info? 4).map (fun i => (i.zero, i.size, i.bytes)) = some (some (.bool false), 1, 1) := by kernel_rfl

/-- What grow leaves. -/
def GrowSays (W : World) (lo hi : T3) (ss : List S4) (e : Ending) (w' : World) : Prop :=
  ∃ q t g cap, e = .returned (.tuple #[pt q, .slice (some ⟨g, 0, none⟩) ss.length cap]) ∧ Tree w' W.heap.size q (I lo.1) (I lo.2.1) (I hi.1) (I hi.2.1) t ∧ (its t).Perm (plst lo hi ss ss.length) ∧
    w'.ownsRow W.heap.size 4 1 (.slice (some ⟨g, 0, none⟩) ss.length cap) ss.length (bls (pdon lo hi ss ss.length)) ∧ Ext W w'

abbrev itc (x : T3) : Value := .agg #[.int .i64 x.1, .int .i64 x.2.1, .int .i64 x.2.2]

set_option maxRecDepth 8000 in
set_option maxHeartbeats 6400000 in
theorem grow_any {lo hi : T3} {ss : List S4} {sg scap : Nat} {ea : Addr} (w : World) (hb : lo.1.natAbs ≤ 65536 ∧ lo.2.1.natAbs ≤ 65536 ∧ hi.1.natAbs ≤ 65536 ∧ hi.2.1.natAbs ≤ 65536) (hS : StepsAt w sg ss) (hl : ss.length ≤ 65536) (hsm : ∀ s ∈ ss, Sm s.2) (he : w.cell? ⟨0, 0, none⟩ = some (.iface 128 (.pointer (some ea)))) :
    Calls Tryd.prog 28 #[.agg #[.int .i64 lo.1, .int .i64 lo.2.1, .int .i64 lo.2.2], .agg #[.int .i64 hi.1, .int .i64 hi.2.1, .int .i64 hi.2.2], .slice (some ⟨sg, 0, none⟩) ss.length scap] w (GrowSays w lo hi ss) := by
  have HB := Lib.hid hb; have HS := Lib.hid hS; have HSM := Lib.hid hsm; have HE := Lib.hid he
  clear hb hS hsm he
  have hsg : sg < w.heap.size := by obtain ⟨cur, h, _⟩ := HS.out; exact (Array.getElem?_eq_some_iff.1 h).1
  go_enter Tryd.func28, Tryd.ntmps28
  go_wp2_with fail
  have X1 := Lib.hid (((Ext.refl w).alloc (.cells #[.int .i64 lo.1, .int .i64 lo.2.1, .int .i64 lo.2.2] 25)).alloc (.cells #[.int .i64 hi.1, .int .i64 hi.2.1, .int .i64 hi.2.2] 25))
  have BL := Lib.hid (blk_old (blk_new w (.cells #[.int .i64 lo.1, .int .i64 lo.2.1, .int .i64 lo.2.2] 25)) (.cells #[.int .i64 hi.1, .int .i64 hi.2.1, .int .i64 hi.2.2] 25))
  have BH := Lib.hid (by have := blk_new (w.alloc (.cells #[.int .i64 lo.1, .int .i64 lo.2.1, .int .i64 lo.2.2] 25)) (.cells #[.int .i64 hi.1, .int .i64 hi.2.1, .int .i64 hi.2.2] 25); rw [World.size_alloc] at this; exact this)
  generalize ((w.alloc (.cells #[.int .i64 lo.1, .int .i64 lo.2.1, .int .i64 lo.2.2] 25)).alloc (.cells #[.int .i64 hi.1, .int .i64 hi.2.1, .int .i64 hi.2.2] 25)) = w1 at *
  have L1 := fun e : Later w1 => cell_of_blk (Ext.blk e.h BL.out)
  have L2 := fun e : Later w1 => cell_of_blk (Ext.blk e.h BH.out)
  have P1 := Lib.hid (fun x y n W => point_any x y n W)
  refine region_ext_tail 5 (by kernel_rfl) (by kernel_rfl) (fun hc => ?_)
  simp only [List.take_succ_cons, List.take_zero, List.drop_succ_cons, List.drop_zero]
  repeat (go_big_quiet_step (exact Calls.later (P1.out _ _ _ _)))
  refine wpQuiet_nil ?_
  rintro w2 ⟨⟨_, hw2⟩, rfl⟩
  have X2 := Lib.hid (X1.out.trans hw2)
  clear L1 L2 hc hw2 BL BH P1
  go_wp2_with fail
  refine (new_tree (x0 := I lo.1) (y0 := I lo.2.1) (x1 := I hi.1) (y1 := I hi.2.1) w2).mono ?_
  rintro e w3 ⟨rfl, hx3, hq3⟩
  have X3 := Lib.hid (X2.out.trans hx3)
  have T0 := Lib.hid (show Tree w3 w.heap.size (w2.heap.size + 1) (I lo.1) (I lo.2.1) (I hi.1) (I hi.2.1) .nil from ⟨hq3, trivial, by simp [bks], by simp [bks], ⟨by have := X2.out.size; omega, by simp [bks]⟩, trivial, by simp [its, nds], bd_I _ HB.out.1, bd_I _ HB.out.2.2.1, bd_I _ HB.out.2.1, bd_I _ HB.out.2.2.2⟩)
  have hq3' : w2.heap.size + 1 < w3.heap.size := T0.out.lt
  clear hx3 hq3
  go_wp2_with fail
  have G0 := Lib.hid (show GI w (w3.alloc (.cells #[] 4)) (w2.heap.size + 1) lo hi ss 0 .nil w3.heap.size 0 false from
    ⟨T0.out.ext ((Ext.refl _).alloc _), by simp [its, nds, plst], ⟨rfl, .inr ⟨w3.heap.size, 0, #[], rfl, X3.out.size, blk_new w3 _, Nat.le_refl _, by simp [maxLen], rfl, rfl⟩⟩, ⟨by omega, by simp [bks]⟩, fun h => (by cases h), fun _ => rfl, X3.out.alloc _⟩)
  generalize w3.alloc (.cells #[] 4) = w4 at *
  obtain ⟨i0, hi0, hz0, hz1, hz2⟩ := info_parts infoB
  have INF := Lib.hid (show Tryd.prog.info? 4 = some i0 ∧ i0.zero = some (.bool false) ∧ i0.size = 1 ∧ i0.bytes = 1 from ⟨hi0, hz0, hz1, hz2⟩)
  clear hi0 hz0 hz1 hz2 T0 X1 X2 X3
  generalize w2.heap.size + 1 = q at *
  go_loopg [9, 10, 23] ss.length (fun R dv sv iv wr => ∃ (i : Nat) (t : Tr) (g cap : Nat) (sm : Bool), R + i = ss.length ∧ iv = .int .i64 (i : Nat) ∧ sv = .bool sm ∧ dv = .slice (some ⟨g, 0, none⟩) i cap ∧ GI w wr q lo hi ss i t g cap sm)
  case atStart => exact ⟨0, .nil, w3.heap.size, 0, false, by omega, rfl, rfl, rfl, G0.out⟩
  case round =>
    obtain ⟨i, t, g, cap, sm, hR, rfl, rfl, rfl, hG⟩ := hrel
    have HG := Lib.hid hG; clear hG G0
    by_cases hlt : i < ss.length
    · obtain ⟨s, hs⟩ : ∃ s, ss[i]? = some s := ⟨_, List.getElem?_eq_getElem hlt⟩
      obtain ⟨d0, d1, d2, d3⟩ := (HS.out.ext HG.out.ext).cells hs
      have HX := Lib.hid (HSM.out s (List.mem_of_getElem? hs))
      have HSS := Lib.hid hs
      clear hs
      obtain ⟨o, x⟩ := s
      dsimp only at d0 d1 d2 d3 HX
      have XB := Lib.hid ((Ext.refl wr).alloc (.cells #[.bool o, .int .i64 x.1, .int .i64 x.2.1, .int .i64 x.2.2] 31))
      have BB := Lib.hid (show (wr.alloc (.cells (stc (o, x)) 31)).heap[wr.heap.size]? = some (.cells (stc (o, x)) 31 (0, 0)) from blk_new wr (.cells #[.bool o, .int .i64 x.1, .int .i64 x.2.1, .int .i64 x.2.2] 31))
      have hgw : sg < wr.heap.size := Nat.lt_of_lt_of_le hsg HG.out.ext.size
      have hn2 : (nds t).length ≤ 1048576 := by
        have h1 := HG.out.perm.length_eq
        have h2 := plst_len lo hi ss i
        rw [its, List.length_map] at h1
        omega
      have HN := Lib.hid hn2
      clear hn2
      rcases o with _ | _
      · have GE := (HG.out.ext).cell HE.out
        have HGE := Lib.hid GE
        clear GE
        go_wp2_with fail
        refine (add_top HX.out (HG.out.tree.ext XB.out) (XB.out.cell HGE.out)).mono ?_
        rintro e w5 hg
        obtain ⟨t2, hc, hT2, hb2, hm2⟩ := top_step hg HG.out.perm
        have HM := Lib.hid hm2; have H2 := Lib.hid (And.intro hT2 hb2)
        clear hg hT2 hb2 hm2
        rcases hc with ⟨ho, rfl, hne2, hp2⟩ | ⟨ho, rfl, rfl, hp2⟩
        · rw [inb_out _ _ _ HB.out, Bool.not_eq_false'] at ho
          have HO := Lib.hid ho; have H3 := Lib.hid (And.intro hne2 hp2)
          clear ho hne2 hp2
          rcases sm with _ | _
          all_goals
            go_wp2_with (at_builtin; refine wpList_append_lies _ rfl (.tmp 32) (.tmp 35) 39 rfl w.heap.size 4 i0 (.bool false) 1 1 Tryd.underlying39 INF.out.1 INF.out.2.1 INF.out.2.2.1 INF.out.2.2.2 rfl (by decide) _ i (bls (pdon lo hi ss i)) rfl (HG.out.own2 XB.out HM.out _).1 ⟨w5.heap.size, 0, none⟩ 1 1 [.bool true] rfl rfl (World.news_of_block (cs := #[.bool true]) (t := 4) (fr := (0, 0)) (heap_alloc_new w5 _)) (by simp [Value.oneCell']) (by omega) (by simp only [maxLen]; omega) (by omega) (HG.out.own2 XB.out HM.out _).2 (w5.heap.size + 1) (by simp) ?_)
            intro g3 cap3 w6 hown hgrow hat hlt6
            have G2 := Lib.hid (HG.out.next HSS.out XB.out H2.out.1 H2.out.2 HM.out (by rw [pstep_in _ HO.out]; exact H3.out.2) (sm2 := true) (fun _ => H3.out.1) (fun h => (by cases h)) (by rw [pstep_in _ HO.out]; exact hown) hgrow hat)
            clear hown hgrow hat hlt6
            go_wp2
            go_roundg (gk - 1)
            case measure => omega
            case rel => exact ⟨i + 1, t2, g3, cap3, true, by omega, by go_num, rfl, rfl, G2.out⟩
        · rw [inb_out _ _ _ HB.out, Bool.not_eq_true'] at ho
          have HO := Lib.hid ho; have H3 := Lib.hid hp2
          clear ho hp2
          rcases sm with _ | _
          all_goals
            go_wp2_with (at_builtin; refine wpList_append_lies _ rfl (.tmp 32) (.tmp 35) 39 rfl w.heap.size 4 i0 (.bool false) 1 1 Tryd.underlying39 INF.out.1 INF.out.2.1 INF.out.2.2.1 INF.out.2.2.2 rfl (by decide) _ i (bls (pdon lo hi ss i)) rfl (HG.out.own2 XB.out HM.out _).1 ⟨w5.heap.size, 0, none⟩ 1 1 [.bool false] rfl rfl (World.news_of_block (cs := #[.bool false]) (t := 4) (fr := (0, 0)) (heap_alloc_new w5 _)) (by simp [Value.oneCell']) (by omega) (by simp only [maxLen]; omega) (by omega) (HG.out.own2 XB.out HM.out _).2 (w5.heap.size + 1) (by simp) ?_)
            intro g3 cap3 w6 hown hgrow hat hlt6
            have G2 := Lib.hid (HG.out.next HSS.out XB.out H2.out.1 H2.out.2 HM.out (by rw [pstep_off _ HO.out]; exact H3.out) (sm2 := _) HG.out.yes HG.out.no (by rw [pstep_off _ HO.out]; exact hown) hgrow hat)
            clear hown hgrow hat hlt6
            go_wp2
            go_roundg (gk - 1)
            case measure => omega
            case rel => exact ⟨i + 1, _, g3, cap3, _, by omega, by go_num, rfl, rfl, G2.out⟩
      · rcases sm with _ | _
        · have ht := HG.out.no rfl
          have hp0 : plst lo hi ss i = [] := by have := HG.out.perm; rw [ht] at this; exact List.nil_perm.1 this
          have HP0 := Lib.hid hp0
          have HM := Lib.hid (Mod.of_ext (S := q :: bks t) (Ext.refl (wr.alloc (.cells #[.bool true, .int .i64 x.1, .int .i64 x.2.1, .int .i64 x.2.2] 31))))
          clear hp0 ht
          have BN := Lib.hid (show ((wr.alloc (.cells #[.bool true, .int .i64 x.1, .int .i64 x.2.1, .int .i64 x.2.2] 31)).alloc (.cells #[.bool false] 4)).heap[wr.heap.size + 1]? = some (.cells #[.bool false] 4 (0, 0)) from by have := blk_new (wr.alloc (.cells #[.bool true, .int .i64 x.1, .int .i64 x.2.1, .int .i64 x.2.2] 31)) (.cells #[.bool false] 4); rw [World.size_alloc] at this; exact this)
          go_wp2_with (at_builtin; refine wpList_append_lies _ rfl (.tmp 60) (.tmp 61) 39 rfl w.heap.size 4 i0 (.bool false) 1 1 Tryd.underlying39 INF.out.1 INF.out.2.1 INF.out.2.2.1 INF.out.2.2.2 rfl (by decide) _ i (bls (pdon lo hi ss i)) rfl (HG.out.own2 XB.out HM.out _).1 ⟨wr.heap.size + 1, 0, none⟩ 1 1 [.bool false] rfl rfl (World.news_of_block (cs := #[.bool false]) (t := 4) (fr := (0, 0)) BN.out) (by simp [Value.oneCell']) (by omega) (by simp only [maxLen]; omega) (by omega) (HG.out.own2 XB.out HM.out _).2 (wr.heap.size + 2) (by simp) ?_)
          intro g3 cap3 w6 hown hgrow hat hlt6
          have G2 := Lib.hid (HG.out.next HSS.out XB.out (HG.out.tree.ext XB.out) (fun k hk => .inl hk) HM.out (by rw [HP0.out, pstep_out]; have := HG.out.perm; rw [HP0.out] at this; exact this) (sm2 := false) (fun h => (by cases h)) (fun _ => HG.out.no rfl) (by rw [HP0.out, pstep_out]; exact hown) hgrow (by rw [World.size_alloc]; exact hat))
          clear hown hgrow hat hlt6
          go_wp2
          go_roundg (gk - 1)
          case measure => omega
          case rel => exact ⟨i + 1, t, g3, cap3, false, by omega, by go_num, rfl, rfl, G2.out⟩
        · go_wp2_with fail
          refine (remove_top (F := 44) (cc := pt wr.heap.size) (f := fun y => y == x) (Q := fun w' => w'.heap[wr.heap.size]? = some (.cells (stc (true, x)) 31 (0, 0))) HX.out (HG.out.tree.ext XB.out) (HG.out.yes rfl) HN.out (fil_same (true, x) wr.heap.size) (fun y => beq_iff_eq) BB.out (fun w1 w2 h hb => (hb.block _ (by rw [World.size_alloc]; omega)).trans h)).mono ?_
          rintro e w5 hg
          obtain ⟨t2, rfl, hT2, hne2, hp2, hb2, hm2⟩ := gone_step hg (HG.out.yes rfl) HG.out.perm
          have HM := Lib.hid hm2; have H2 := Lib.hid (And.intro hT2 (And.intro hne2 (And.intro hp2 hb2)))
          clear hg hT2 hne2 hp2 hb2 hm2
          generalize hd : (plst lo hi ss i).contains x = d at *
          have HD := Lib.hid hd; clear hd
          go_wp2_with (at_builtin; refine wpList_append_lies _ rfl (.tmp 48) (.tmp 55) 39 rfl w.heap.size 4 i0 (.bool false) 1 1 Tryd.underlying39 INF.out.1 INF.out.2.1 INF.out.2.2.1 INF.out.2.2.2 rfl (by decide) _ i (bls (pdon lo hi ss i)) rfl (HG.out.own2 XB.out HM.out _).1 ⟨w5.heap.size, 0, none⟩ 1 1 [.bool d] rfl rfl (World.news_of_block (cs := #[.bool d]) (t := 4) (fr := (0, 0)) (heap_alloc_new w5 _)) (by simp [Value.oneCell']) (by omega) (by simp only [maxLen]; omega) (by omega) (HG.out.own2 XB.out HM.out _).2 (w5.heap.size + 1) (by simp) ?_)
          intro g3 cap3 w6 hown hgrow hat hlt6
          have G2 := Lib.hid (HG.out.next HSS.out XB.out H2.out.1 H2.out.2.2.2 HM.out (by rw [pstep_out]; exact H2.out.2.2.1) (sm2 := true) (fun _ => H2.out.2.1) (fun h => (by cases h)) (by rw [pstep_out, HD.out]; exact hown) hgrow hat)
          clear hown hgrow hat hlt6
          go_wp2
          go_roundg (gk - 1)
          case measure => omega
          case rel => exact ⟨i + 1, t2, g3, cap3, true, by omega, by go_num, rfl, rfl, G2.out⟩
    · have hi2 : i = ss.length := by omega
      subst hi2
      have FIN := Lib.hid (show GrowSays w lo hi ss (.returned (.tuple #[pt q, .slice (some ⟨g, 0, none⟩) ss.length cap])) wr from ⟨q, t, g, cap, rfl, HG.out.tree, HG.out.perm, HG.out.own, HG.out.ext⟩)
      go_wp2_with fail
      go_ret2
      exact FIN.out

end Go.Proofs.YtmmmknmncdlopaaDoor
