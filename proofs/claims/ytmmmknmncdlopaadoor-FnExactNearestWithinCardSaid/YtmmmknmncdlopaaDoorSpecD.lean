/- spec.Play: steps over a plain list. Conditions: no more than 65536 steps. -/
import Derived.Test.YtmmmknmncdlopaaDoorJoins
import Derived.Deep.RegionLaw
namespace Go.Proofs.YtmmmknmncdlopaaDoor
open Go.ChangeShapes Go.WideShapes Go.ChangeAt Go.RowKit
open Go.Proofs.YtmmmknmncdlopaaDoor.F

theorem ownN_cells {w : World} {base g cap n : Nat} {us : List T3} (h : w.ownsRow base 25 3 (.slice (some ⟨g, 0, none⟩) n cap) n (cells3 us)) {i : Nat} {t : T3} (ht : us[i]? = some t) :
    w.cell? ⟨g, i * 3, none⟩ = some (.int .i64 t.1) ∧ w.cell? ⟨g, i * 3 + 1, none⟩ = some (.int .i64 t.2.1) ∧ w.cell? ⟨g, i * 3 + 2, none⟩ = some (.int .i64 t.2.2) := by
  have hl : us.length = n := by have := h.1; rw [cells3_length] at this; omega
  subst hl
  exact ownI_cells h ht

theorem own_cap2 {w : World} {base g cap n : Nat} {xs : List Value} {e : TypeId} {sz : Nat} (h : w.ownsRow base e sz (.slice (some ⟨g, 0, none⟩) n cap) n xs) : n ≤ cap ∧ cap ≤ 2 ^ 63 - 1 := by
  rcases h.2 with ⟨h0, _⟩ | ⟨g', cap', cur, hv, _, _, h1, h2, _⟩
  · cases h0
  · cases hv; exact ⟨h1, h2⟩

/-- What Play hands back. -/
def PlaySays (lo hi : T3) (ss : List S4) (w : World) (e : Ending) (w' : World) : Prop :=
  ∃ g cap g2 cap2, e = .returned (.tuple #[.slice (some ⟨g, 0, none⟩) ss.length cap, .slice (some ⟨g2, 0, none⟩) (plst lo hi ss ss.length).length cap2]) ∧
    w'.ownsRow w.heap.size 4 1 (.slice (some ⟨g, 0, none⟩) ss.length cap) ss.length (bls (pdon lo hi ss ss.length)) ∧ OwnI w' w.heap.size g2 cap2 (plst lo hi ss ss.length) ∧ Ext w w'

/-- Behind i steps: the bools in block g, the items in block g2. -/
structure PI (W wr : World) (lo hi : T3) (ss : List S4) (i g cap g2 n cap2 : Nat) : Prop where
  ds : wr.ownsRow W.heap.size 4 1 (.slice (some ⟨g, 0, none⟩) i cap) i (bls (pdon lo hi ss i))
  ls : wr.ownsRow W.heap.size 25 3 (.slice (some ⟨g2, 0, none⟩) n cap2) n (cells3 (plst lo hi ss i))
  len : (plst lo hi ss i).length = n
  far : g ≠ g2
  ext : Ext W wr

/-- Behind the list's turn of one step: the bools as they were, the items those of the list behind the step. -/
structure PJ (W wr w2 : World) (lo hi : T3) (ss : List S4) (i g cap g3 n3 cap3 : Nat) (is : Bool) (s : S4) : Prop where
  ds : w2.ownsRow W.heap.size 4 1 (.slice (some ⟨g, 0, none⟩) i cap) i (bls (pdon lo hi ss i))
  ls : w2.ownsRow W.heap.size 25 3 (.slice (some ⟨g3, 0, none⟩) n3 cap3) n3 (cells3 (pstep lo hi s (plst lo hi ss i)).2)
  len : (pstep lo hi s (plst lo hi ss i)).2.length = n3
  is : is = (pstep lo hi s (plst lo hi ss i)).1
  far : g ≠ g3
  ext : Ext W w2

/-- Behind the bool's append. -/
theorem PJ.next {W wr w2 w3 : World} {lo hi : T3} {ss : List S4} {i g cap g3 n3 cap3 g4 cap4 : Nat} {is : Bool} {s : S4} {o : Obj} (h : PJ W wr w2 lo hi ss i g cap g3 n3 cap3 is s) (hs : ss[i]? = some s)
    (hown : w3.ownsRow W.heap.size 4 1 (.slice (some ⟨g4, 0, none⟩) (i + 1) cap4) (i + 1) (bls (pdon lo hi ss i) ++ [.bool is])) (hg : (w2.alloc o).grownBy w3 (some g)) (ha : some g = some g4 ∨ g4 = w2.heap.size + 1) :
    PI W w3 lo hi ss (i + 1) g4 cap4 g3 n3 cap3 := by
  have hgl := own_lt h.ds
  have h3 := own_lt h.ls
  have e2 : Ext w2 (w2.alloc o) := (Ext.refl _).alloc o
  have s2 := e2.size
  have k3 : w3.heap[g3]? = w2.heap[g3]? := (hg.block g3 (by omega) (fun e => h.far (Option.some.inj e).symm)).trans (heap_alloc_old w2 o h3.2)
  refine ⟨?_, ?_, ?_, ?_, ?_⟩
  · rw [pdon_succ hs, bls_append]; rw [h.is] at hown; exact hown
  · rw [plst_succ hs]; exact own_keep h.ls k3
  · rw [plst_succ hs]; exact h.len
  · rcases ha with ha | ha
    · injection ha with ha; rw [← ha]; exact h.far
    · omega
  · exact Below.grown (h.ext.trans e2) hg (Nat.le_trans h.ext.size s2) (fun k hk => by injection hk with hk; rw [← hk]; exact hgl.1)

/-- Behind the item's append. -/
theorem PI.put {W wr w5 w6 : World} {lo hi : T3} {ss : List S4} {i g cap g2 n cap2 g3 n3 cap3 : Nat} {is : Bool} {s : S4} {o : Obj} (h : PI W wr lo hi ss i g cap g2 n cap2) (hx : Ext wr w5)
    (hown : w6.ownsRow W.heap.size 25 3 (.slice (some ⟨g3, 0, none⟩) n3 cap3) n3 (cells3 (pstep lo hi s (plst lo hi ss i)).2)) (hn : (pstep lo hi s (plst lo hi ss i)).2.length = n3) (his : is = (pstep lo hi s (plst lo hi ss i)).1) (hg : (w5.alloc o).grownBy w6 (some g2)) (ha : g3 = g2 ∨ g3 = w5.heap.size + 1) :
    PJ W wr w6 lo hi ss i g cap g3 n3 cap3 is s := by
  have h1 := own_lt h.ds
  have h2 := own_lt h.ls
  have s5 := hx.size
  have e5 : Ext wr (w5.alloc o) := hx.alloc o
  have kg : w6.heap[g]? = wr.heap[g]? := (hg.block g (by rw [World.size_alloc]; omega) (fun e => h.far (Option.some.inj e))).trans (e5.block g h1.2)
  refine ⟨own_keep h.ds kg, hown, hn, his, ?_, Below.grown (Ext.trans h.ext e5) hg (Nat.le_trans h.ext.size e5.size) (fun k hk => by injection hk with hk; rw [← hk]; exact h2.1)⟩
  rcases ha with rfl | rfl
  · exact h.far
  · omega

/-- Behind the item that is taken out. -/
theorem PJ.found {W wo w3 w5 : World} {lo hi x : T3} {ss : List S4} {i g cap g2 n cap2 g5 N cap5 j : Nat} {L : List T3} (h : PI W wo lo hi ss i g cap g2 n cap2) (hx3 : Ext wo w3) (hx5 : Ext wo w5)
    (hown : w5.ownsRow w3.heap.size 25 3 (.slice (some ⟨g5, 0, none⟩) N cap5) N (cells3 L)) (hj : (plst lo hi ss i)[j]? = some x) (hnx : x ∉ (plst lo hi ss i).take j) (hL : L = (plst lo hi ss i).take j ++ (plst lo hi ss i).drop (j + 1)) (hN : N + 1 = n) :
    PJ W wo w5 lo hi ss i g cap g5 N cap5 true (true, x) := by
  have hjl := (List.getElem?_eq_some_iff.1 hj).1
  have e1 : pstep lo hi (true, x) (plst lo hi ss i) = (true, L) := by
    rw [pstep_out, erase_at hj hnx, hL, show (plst lo hi ss i).contains x = true from List.contains_iff_mem.2 (List.mem_of_getElem? hj)]
  have hgl := own_lt h.ds
  have hg5 := own_lt hown
  have s3 := hx3.size
  refine ⟨kept_ext hx5 h.ds, by rw [e1]; exact own_mono hown (Nat.le_trans h.ext.size s3), ?_, by rw [e1], by omega, h.ext.trans hx5⟩
  rw [e1]
  have := h.len
  show L.length = N
  rw [hL, List.length_append, List.length_take, List.length_drop]
  omega

set_option maxRecDepth 8000 in
set_option maxHeartbeats 6400000 in
theorem play_any {lo hi : T3} {ss : List S4} {sg : Nat} (scap : Nat) (w : World) (hS : StepsAt w sg ss) (hl : ss.length ≤ 65536) :
    Calls Tryd.prog 16 #[.agg #[.int .i64 lo.1, .int .i64 lo.2.1, .int .i64 lo.2.2], .agg #[.int .i64 hi.1, .int .i64 hi.2.1, .int .i64 hi.2.2], .slice (some ⟨sg, 0, none⟩) ss.length scap] w (PlaySays lo hi ss w) := by
  have HS := Lib.hid hS
  clear hS
  have hsg : sg < w.heap.size := by obtain ⟨cur, h, _⟩ := HS.out; exact (Array.getElem?_eq_some_iff.1 h).1
  go_enter Tryd.func16, Tryd.ntmps16
  go_wp2_with fail
  have BL := Lib.hid (blk_old (blk_new w (.cells #[.int .i64 lo.1, .int .i64 lo.2.1, .int .i64 lo.2.2] 25)) (.cells #[.int .i64 hi.1, .int .i64 hi.2.1, .int .i64 hi.2.2] 25))
  have BH := Lib.hid (by have := blk_new (w.alloc (.cells #[.int .i64 lo.1, .int .i64 lo.2.1, .int .i64 lo.2.2] 25)) (.cells #[.int .i64 hi.1, .int .i64 hi.2.1, .int .i64 hi.2.2] 25); rw [World.size_alloc] at this; exact this)
  have X1 := Lib.hid (((Ext.refl w).alloc (.cells #[.int .i64 lo.1, .int .i64 lo.2.1, .int .i64 lo.2.2] 25)).alloc (.cells #[.int .i64 hi.1, .int .i64 hi.2.1, .int .i64 hi.2.2] 25))
  have hz1 : ((w.alloc (.cells #[.int .i64 lo.1, .int .i64 lo.2.1, .int .i64 lo.2.2] 25)).alloc (.cells #[.int .i64 hi.1, .int .i64 hi.2.1, .int .i64 hi.2.2] 25)).heap.size = w.heap.size + 1 + 1 := by simp
  have HZ1 := Lib.hid hz1
  clear hz1
  generalize (w.alloc (.cells #[.int .i64 lo.1, .int .i64 lo.2.1, .int .i64 lo.2.2] 25)).alloc (.cells #[.int .i64 hi.1, .int .i64 hi.2.1, .int .i64 hi.2.2] 25) = w1 at *
  have B3 := blk_new w1 (.cells #[] 4)
  have B4 := blk_new (w1.alloc (.cells #[] 4)) (.cells #[] 25)
  have B3 := blk_old B3 (.cells #[] 25)
  have X0 := ((Ext.refl w1).alloc (.cells #[] 4)).alloc (.cells #[] 25)
  simp only [World.size_alloc] at B4
  rw [HZ1.out] at B3 B4
  have G0 := Lib.hid (show PI w1 ((w1.alloc (.cells #[] 4)).alloc (.cells #[] 25)) lo hi ss 0 (w.heap.size + 1 + 1) 0 (w.heap.size + 1 + 1 + 1) 0 0 from
    ⟨⟨rfl, .inr ⟨_, 0, #[], rfl, by rw [HZ1.out]; omega, B3, Nat.le_refl _, by simp [maxLen], rfl, rfl⟩⟩, ⟨rfl, .inr ⟨_, 0, #[], rfl, by rw [HZ1.out]; omega, B4, Nat.le_refl _, by simp [maxLen], rfl, rfl⟩⟩, rfl, by omega, X0⟩)
  generalize (w1.alloc (.cells #[] 4)).alloc (.cells #[] 25) = w0 at *
  clear B3 B4 X0
  obtain ⟨i0, hi0, hz0, hz1, hz2⟩ := info_parts infoB
  have INF := Lib.hid (show Tryd.prog.info? 4 = some i0 ∧ i0.zero = some (.bool false) ∧ i0.size = 1 ∧ i0.bytes = 1 from ⟨hi0, hz0, hz1, hz2⟩)
  clear hi0 hz0 hz1 hz2
  go_loopg [8, 9, 18] ss.length (fun R dv lv iv wr => ∃ (i g cap g2 n cap2 : Nat), R + i = ss.length ∧ iv = .int .i64 (i : Nat) ∧ dv = .slice (some ⟨g, 0, none⟩) i cap ∧ lv = .slice (some ⟨g2, 0, none⟩) n cap2 ∧ PI w1 wr lo hi ss i g cap g2 n cap2)
  case atStart => exact ⟨0, _, 0, _, 0, 0, by omega, rfl, rfl, rfl, G0.out⟩
  case round =>
    obtain ⟨gR, rfl⟩ : ∃ gR : Nat, gR = gk := ⟨_, rfl⟩
    obtain ⟨wo, rfl⟩ : ∃ wo : World, wo = wr := ⟨_, rfl⟩
    obtain ⟨i, g, cap, g2, n, cap2, hR, rfl, rfl, rfl, hG⟩ := hrel
    have HG := Lib.hid hG; clear hG G0
    by_cases hlt : i < ss.length
    · obtain ⟨s, hs⟩ : ∃ s, ss[i]? = some s := ⟨_, List.getElem?_eq_getElem hlt⟩
      obtain ⟨d0, d1, d2, d3⟩ := (HS.out.ext (X1.out.trans HG.out.ext)).cells hs
      have HSS := Lib.hid hs
      clear hs
      obtain ⟨o, x⟩ := s
      dsimp only at d0 d1 d2 d3
      have XB := Lib.hid ((Ext.refl wo).alloc (.cells #[.bool o, .int .i64 x.1, .int .i64 x.2.1, .int .i64 x.2.2] 31))
      have BB := Lib.hid (blk_new wo (.cells #[.bool o, .int .i64 x.1, .int .i64 x.2.1, .int .i64 x.2.2] 31))
      have hw3 : w.heap.size + 1 + 1 ≤ wo.heap.size := by have := HG.out.ext.size; have := HZ1.out; omega
      have hgw : sg < wo.heap.size := by omega
      have hn2 : n ≤ 65536 := by
        have h2 := plst_len lo hi ss i
        have := HG.out.len
        omega
      have CL := cell_of_blk (blk_old (Ext.blk HG.out.ext BL.out) (.cells #[.bool o, .int .i64 x.1, .int .i64 x.2.1, .int .i64 x.2.2] 31))
      have CH := cell_of_blk (blk_old (Ext.blk HG.out.ext BH.out) (.cells #[.bool o, .int .i64 x.1, .int .i64 x.2.1, .int .i64 x.2.2] 31))
      have hw1 : w.heap.size < wo.heap.size := by omega
      have hw2 : w.heap.size + 1 < wo.heap.size := by omega
      rcases o with _ | _
      · by_cases hin : inb lo hi x = true
        · have HI := Lib.hid (fun W => in_any lo hi x W)
          rw [hin] at HI
          have HIN := Lib.hid hin; clear hin
          go_wp2_with fail
          refine (HI.out _).mono ?_
          rintro e w5 ⟨rfl, hx5⟩
          have C5 := cell_of_blk (Ext.blk hx5 BB.out)
          have X5 := Lib.hid (XB.out.trans hx5)
          have hb5 : wo.heap.size < w5.heap.size := (Array.getElem?_eq_some_iff.1 (Ext.blk hx5 BB.out)).1
          have BB5 := Lib.hid (Ext.blk hx5 BB.out)
          clear hx5 CL CH
          go_wp2_with (at_builtin; refine wpList_join rfl (.tmp 33) (.tmp 36) rfl w1.heap.size g2 n cap2 (plst lo hi ss i) rfl (kept_ext (X5.out.alloc (.cells #[.int .i64 x.1, .int .i64 x.2.1, .int .i64 x.2.2] 25)) HG.out.ls) ⟨w5.heap.size, 0, none⟩ 1 1 [x] rfl rfl (World.news_of_block (cs := #[.int .i64 x.1, .int .i64 x.2.1, .int .i64 x.2.2]) (t := 25) (fr := (0, 0)) (heap_alloc_new w5 _)) (n + 1) rfl (by omega) (by have := HG.out.ext.size; rw [World.size_alloc]; omega) (w5.heap.size + 1) (by simp) ?_)
          intro g3 cap3 w6 hown hgrow hat
          have PJ6 := Lib.hid (HG.out.put (is := true) X5.out (by rw [pstep_in _ HIN.out]; exact hown) (by rw [pstep_in _ HIN.out]; simp [HG.out.len]) (by rw [pstep_in _ HIN.out]) hgrow hat)
          have BB6 := Lib.hid ((hgrow.block wo.heap.size (by rw [World.size_alloc]; omega) (by have := (own_lt HG.out.ls).2; simp; omega)).trans (blk_old BB5.out _))
          clear hown hgrow hat C5
          have C6 := cell_of_blk BB6.out
          go_wp2_with fail
          go_loopg [9, 12, 13] 0 (fun r lv bv jv wq => lv = .slice (some ⟨g3, 0, none⟩) (n + 1) cap3 ∧ bv = .bool true ∧ jv = .int .i64 0 ∧ w6 = wq)
          case atStart => exact ⟨rfl, rfl, rfl, rfl⟩
          case round =>
            obtain ⟨rfl, rfl, rfl, rfl⟩ := hrel
            go_wp2_with (at_builtin; refine wpList_append_lies _ rfl (.tmp 69) (.tmp 71) 39 rfl w1.heap.size 4 i0 (.bool false) 1 1 Tryd.underlying39 INF.out.1 INF.out.2.1 INF.out.2.2.1 INF.out.2.2.2 rfl (by decide) _ i (bls (pdon lo hi ss i)) rfl (kept_ext ((Ext.refl _).alloc _) PJ6.out.ds) ⟨w6.heap.size, 0, none⟩ 1 1 [.bool true] rfl rfl (World.news_of_block (cs := #[.bool true]) (t := 4) (fr := (0, 0)) (heap_alloc_new w6 _)) (by simp [Value.oneCell']) (by omega) (by simp only [maxLen]; omega) (by omega) (by have := PJ6.out.ext.size; rw [World.size_alloc]; omega) (w6.heap.size + 1) (by simp) ?_)
            intro g4 cap4 w7 hown hgrow hat hlt7
            have G2 := Lib.hid (PJ6.out.next HSS.out hown hgrow hat)
            clear hown hgrow hat hlt7
            go_wp2
            go_roundg (gR - 1)
            case measure => omega
            case rel => exact ⟨i + 1, g4, cap4, g3, n + 1, cap3, by omega, by go_num, rfl, rfl, G2.out⟩
        · rw [Bool.not_eq_true] at hin
          have HI := Lib.hid (fun W => in_any lo hi x W)
          rw [hin] at HI
          have HIN := Lib.hid hin; clear hin
          go_wp2_with fail
          refine (HI.out _).mono ?_
          rintro e w6 ⟨rfl, hx5⟩
          have C6 := cell_of_blk (Ext.blk hx5 BB.out)
          have X5 := Lib.hid (XB.out.trans hx5)
          have PJ6 := Lib.hid (show PJ w1 wo w6 lo hi ss i g cap g2 n cap2 false (false, x) from ⟨kept_ext X5.out HG.out.ds, by rw [pstep_off _ HIN.out]; exact kept_ext X5.out HG.out.ls, by rw [pstep_off _ HIN.out]; exact HG.out.len, by rw [pstep_off _ HIN.out], HG.out.far, HG.out.ext.trans X5.out⟩)
          clear hx5 CL CH
          go_wp2_with fail
          go_loopg [9, 12, 13] 0 (fun r lv bv jv wq => lv = .slice (some ⟨g2, 0, none⟩) n cap2 ∧ bv = .bool false ∧ jv = .int .i64 0 ∧ w6 = wq)
          case atStart => exact ⟨rfl, rfl, rfl, rfl⟩
          case round =>
            obtain ⟨rfl, rfl, rfl, rfl⟩ := hrel
            go_wp2_with (at_builtin; refine wpList_append_lies _ rfl (.tmp 69) (.tmp 71) 39 rfl w1.heap.size 4 i0 (.bool false) 1 1 Tryd.underlying39 INF.out.1 INF.out.2.1 INF.out.2.2.1 INF.out.2.2.2 rfl (by decide) _ i (bls (pdon lo hi ss i)) rfl (kept_ext ((Ext.refl _).alloc _) PJ6.out.ds) ⟨w6.heap.size, 0, none⟩ 1 1 [.bool false] rfl rfl (World.news_of_block (cs := #[.bool false]) (t := 4) (fr := (0, 0)) (heap_alloc_new w6 _)) (by simp [Value.oneCell']) (by omega) (by simp only [maxLen]; omega) (by omega) (by have := PJ6.out.ext.size; rw [World.size_alloc]; omega) (w6.heap.size + 1) (by simp) ?_)
            intro g4 cap4 w7 hown hgrow hat hlt7
            have G2 := Lib.hid (PJ6.out.next HSS.out hown hgrow hat)
            clear hown hgrow hat hlt7
            go_wp2
            go_roundg (gR - 1)
            case measure => omega
            case rel => exact ⟨i + 1, g4, cap4, g2, n, cap2, by omega, by go_num, rfl, rfl, G2.out⟩
      · clear CL CH
        have CX := cell_of_blk BB.out
        have HO := Lib.hid HG.out.ls
        have hle : (plst lo hi ss i).length = n := HG.out.len
        have eqx := fun a b c => eq_item a b c x.1 x.2.1 x.2.2
        go_wp2_with fail
        generalize wo.alloc (.cells #[.bool true, .int .i64 x.1, .int .i64 x.2.1, .int .i64 x.2.2] 31) = wb at *
        clear CX
        go_loopg [9, 12, 13] n (fun r lv bv jv wq => ∃ (j : Nat), jv = .int .i64 (j : Nat) ∧ Ext wb wq ∧ ((r = n - j ∧ j ≤ n ∧ lv = .slice (some ⟨g2, 0, none⟩) n cap2 ∧ bv = .bool false ∧ x ∉ (plst lo hi ss i).take j) ∨ ∃ g3 n3 cap3, j ≤ n ∧ lv = .slice (some ⟨g3, 0, none⟩) n3 cap3 ∧ bv = .bool true ∧ PJ w1 wo wq lo hi ss i g cap g3 n3 cap3 true (true, x)))
        case atStart => exact ⟨0, rfl, Ext.refl _, .inl ⟨rfl, by omega, rfl, rfl, by simp⟩⟩
        case round =>
          obtain ⟨gq, rfl⟩ : ∃ gq : Nat, gq = gk := ⟨_, rfl⟩
          obtain ⟨j, rfl, hxq, h⟩ := hrel
          have XQ := Lib.hid hxq
          have BQ := Lib.hid (Ext.blk hxq BB.out)
          have CQ := cell_of_blk BQ.out
          have hwq : wo.heap.size < wr.heap.size := (Array.getElem?_eq_some_iff.1 BQ.out).1
          rcases h with ⟨rfl, hjn, rfl, rfl, hnx⟩ | ⟨g3, n3, cap3, hjn, rfl, rfl, hpj⟩
          · have HNX := Lib.hid hnx
            clear hxq hnx
            by_cases hj : j < n
            · obtain ⟨y, hy⟩ : ∃ y, (plst lo hi ss i)[j]? = some y := ⟨_, List.getElem?_eq_getElem (by omega)⟩
              have HY := Lib.hid hy
              have OW := Lib.hid (kept_ext (XB.out.trans XQ.out) HO.out)
              obtain ⟨e0, e1, e2⟩ := ownN_cells OW.out hy
              have L1 := fun e : Later wr => e.h.cell e0
              have L2 := fun e : Later wr => e.h.cell e1
              have L3 := fun e : Later wr => e.h.cell e2
              have L4 := fun e : Later wr => cell_of_blk (Ext.blk e.h BQ.out)
              have hg2 := (own_lt OW.out).2
              clear hy e0 e1 e2
              by_cases hyx : y = x
              · have eqy : ∀ W, (Op.equalIn 10000 25 (.agg #[.int .i64 y.1, .int .i64 y.2.1, .int .i64 y.2.2]) (.agg #[.int .i64 x.1, .int .i64 x.2.1, .int .i64 x.2.2])).run Tryd.prog W = .ok true W := fun W => by rw [eqx, hyx]; simp
                have HYX := Lib.hid hyx
                clear hyx eqx
                go_wp2_with fail
                refine region_ext (by kernel_rfl) (by kernel_rfl) (fun hc => ?_)
                repeat (go_big_quiet_step (fail))
                refine wpQuiet_nil ?_
                rintro w3 ⟨⟨_, hw3⟩, rfl⟩
                have X3 := Lib.hid hw3
                clear L1 L2 L3 L4 hc hw3 eqy
                go_wp2_with fail
                have O3 := Lib.hid (kept_ext X3.out OW.out)
                have hg3 := (own_lt O3.out).2
                have hcap := own_cap2 O3.out
                have hb3 : w1.heap.size ≤ w3.heap.size := Nat.le_trans HG.out.ext.size (XB.out.trans (XQ.out.trans X3.out)).size
                have HB3 := Lib.hid hb3
                clear hb3
                have ON := Lib.hid (show (w3.alloc (.cells #[] 25)).drew.ownsRow w3.heap.size 25 3 (.slice (some ⟨w3.heap.size, 0, none⟩) 0 0) 0 (cells3 []) from ⟨rfl, .inr ⟨_, 0, #[], rfl, Nat.le_refl _, blk_new w3 _, Nat.le_refl _, by simp [maxLen], rfl, rfl⟩⟩)
                have hjc : j ≤ cap2 := by omega
                have hjc1 : j + 1 ≤ cap2 := by omega
                have hjn1 : j + 1 ≤ n := by omega
                have hwp : IntKind.i64.wrap ((j : Int) + 1) = (j : Int) + 1 := IntWalk.i64_in _ (by omega)
                have hi0 : (0 : Int) ≤ (j : Int) + 1 := by omega
                have hi1 : (j : Int) + 1 ≤ (n : Int) := by omega
                have hi2 : ((j : Int) + 1).toNat = j + 1 := by omega
                have hi3 : (j : Int) ≤ (j : Int) + 1 := by omega
                by_cases hce : cap2 = j + 1
                · subst hce
                  obtain rfl : n = j + 1 := by omega
                  go_region_law (first
                    | (refine step_join rfl (.tmp 59) (.tmp 62) rfl w3.heap.size w3.heap.size 0 0 [] (by rfl) ON.out ⟨g2, 0, none⟩ j (j + 1) ((plst lo hi ss i).take j) (by rfl) (by simp; omega) (own_part (kept_ext ((Ext.refl _).alloc _) O3.out) _ (i := 0) (fun k t h => by rw [List.getElem?_take] at h; split at h; rw [Nat.zero_add]; exact h; cases h) 0 rfl) j (by omega) (by omega) (by simp) (w3.heap.size + 1) (by simp) ?_
                       intro g4 cap4 w4 hown4 hgrow4 hat4
                       have O4 := Lib.hid (And.intro hown4 (And.intro hgrow4 hat4))
                       have K4 := Lib.hid (own_keep O3.out ((hgrow4.block g2 (by show g2 < (w3.alloc _).heap.size; rw [World.size_alloc]; omega) (fun e => by have := Option.some.inj e; omega)).trans (heap_alloc_old w3 _ hg3)))
                       have X4 := Lib.hid (show Ext w3 w4 from Below.grown ((Ext.refl w3).alloc (.cells #[] 25)).drew hgrow4 (by show _ ≤ (w3.alloc _).heap.size; rw [World.size_alloc]; omega) (fun k hk => by injection hk with hk; rw [← hk]; exact Nat.le_refl _))
                       clear hown4 hgrow4 hat4)
                    | (refine step_join rfl (.tmp 63) (.tmp 67) rfl w3.heap.size g4 j cap4 (([] : List T3) ++ (plst lo hi ss i).take j) (by rfl) O4.out.1 ⟨g2, 0, none⟩ 0 0 ([] : List T3) (by rfl) rfl (fun j u h => by simp [cells3] at h) j (by omega) (by omega) X4.out.size w4.heap.size rfl ?_
                       intro g5 cap5 w5 hown5 hgrow5 hat5
                       have X35 := Lib.hid (show Ext w3 w5 from Below.grown X4.out hgrow5 X4.out.size (fun k hk => by injection hk with hk; rw [← hk]; exact (own_lt O4.out.1).1))
                       have PJ5 := Lib.hid (PJ.found HG.out (XB.out.trans (XQ.out.trans X3.out)) (XB.out.trans (XQ.out.trans (X3.out.trans X35.out))) hown5 (by rw [← HYX.out]; exact HY.out) HNX.out (by rw [List.drop_of_length_le (by omega)]; rfl) rfl)
                       clear hown5 hgrow5 hat5))
                  all_goals
                    go_wp2
                    go_roundg 0
                    case measure => omega
                    case rel => exact ⟨j + 1, by go_num, XQ.out.trans (X3.out.trans X35.out), .inr ⟨g5, _, cap5, by omega, rfl, rfl, PJ5.out⟩⟩
                · skip
                  go_region_law (first
                    | (refine step_join rfl (.tmp 59) (.tmp 62) rfl w3.heap.size w3.heap.size 0 0 [] (by rfl) ON.out ⟨g2, 0, none⟩ j cap2 ((plst lo hi ss i).take j) (by rfl) (by simp; omega) (own_part (kept_ext ((Ext.refl _).alloc _) O3.out) _ (i := 0) (fun k t h => by rw [List.getElem?_take] at h; split at h; rw [Nat.zero_add]; exact h; cases h) 0 rfl) j (by omega) (by omega) (by simp) (w3.heap.size + 1) (by simp) ?_
                       intro g4 cap4 w4 hown4 hgrow4 hat4
                       have O4 := Lib.hid (And.intro hown4 (And.intro hgrow4 hat4))
                       have K4 := Lib.hid (own_keep O3.out ((hgrow4.block g2 (by show g2 < (w3.alloc _).heap.size; rw [World.size_alloc]; omega) (fun e => by have := Option.some.inj e; omega)).trans (heap_alloc_old w3 _ hg3)))
                       have X4 := Lib.hid (show Ext w3 w4 from Below.grown ((Ext.refl w3).alloc (.cells #[] 25)).drew hgrow4 (by show _ ≤ (w3.alloc _).heap.size; rw [World.size_alloc]; omega) (fun k hk => by injection hk with hk; rw [← hk]; exact Nat.le_refl _))
                       clear hown4 hgrow4 hat4)
                    | (refine step_join rfl (.tmp 63) (.tmp 67) rfl w3.heap.size g4 j cap4 (([] : List T3) ++ (plst lo hi ss i).take j) (by rfl) O4.out.1 ⟨g2, (j + 1) * 3, none⟩ (n - (j + 1)) (cap2 - (j + 1)) ((plst lo hi ss i).drop (j + 1)) (by rfl) (by simp; omega) (own_part K4.out _ (i := j + 1) (fun k t h => by rw [List.getElem?_drop] at h; exact h) _ rfl) (n - 1) (by omega) (by omega) X4.out.size w4.heap.size rfl ?_
                       intro g5 cap5 w5 hown5 hgrow5 hat5
                       have X35 := Lib.hid (show Ext w3 w5 from Below.grown X4.out hgrow5 X4.out.size (fun k hk => by injection hk with hk; rw [← hk]; exact (own_lt O4.out.1).1))
                       have PJ5 := Lib.hid (PJ.found HG.out (XB.out.trans (XQ.out.trans X3.out)) (XB.out.trans (XQ.out.trans (X3.out.trans X35.out))) hown5 (by rw [← HYX.out]; exact HY.out) HNX.out rfl (by omega))
                       clear hown5 hgrow5 hat5))
                  all_goals
                    go_wp2
                    go_roundg 0
                    case measure => omega
                    case rel => exact ⟨j + 1, by go_num, XQ.out.trans (X3.out.trans X35.out), .inr ⟨g5, _, cap5, by omega, rfl, rfl, PJ5.out⟩⟩
              · have eqy : ∀ W, (Op.equalIn 10000 25 (.agg #[.int .i64 y.1, .int .i64 y.2.1, .int .i64 y.2.2]) (.agg #[.int .i64 x.1, .int .i64 x.2.1, .int .i64 x.2.2])).run Tryd.prog W = .ok false W := fun W => by
                  rw [eqx]
                  have : (y.1 == x.1 && (y.2.1 == x.2.1 && y.2.2 == x.2.2)) = false := by
                    rw [← Bool.not_eq_true]
                    simp only [Bool.and_eq_true, beq_iff_eq]
                    rintro ⟨h1, h2, h3⟩
                    exact hyx (Prod.ext h1 (Prod.ext h2 h3))
                  rw [this]
                have HYX := Lib.hid hyx
                clear hyx eqx
                go_wp2_with fail
                refine region_ext (by kernel_rfl) (by kernel_rfl) (fun hc => ?_)
                repeat (go_big_quiet_step (fail))
                refine wpQuiet_nil ?_
                rintro w3 ⟨⟨_, hw3⟩, rfl⟩
                have X3 := Lib.hid hw3
                clear L1 L2 L3 L4 hc hw3 eqy
                go_wp2
                go_roundg (n - (j + 1))
                case measure => omega
                case rel =>
                  refine ⟨j + 1, by go_num, XQ.out.trans X3.out, .inl ⟨rfl, by omega, rfl, rfl, ?_⟩⟩
                  rw [List.take_add_one, HY.out]
                  simp only [Option.toList_some, List.mem_append, List.mem_singleton, not_or]
                  exact ⟨HNX.out, fun e => HYX.out e.symm⟩
            · obtain rfl : j = n := by omega
              have PJ6 := Lib.hid (show PJ w1 wo wr lo hi ss i g cap g2 j cap2 false (true, x) from by
                have hc : x ∉ plst lo hi ss i := by have := HNX.out; rwa [List.take_of_length_le (by omega)] at this
                have e1 : (pstep lo hi (true, x) (plst lo hi ss i)) = (false, plst lo hi ss i) := by
                  rw [pstep_out, List.erase_of_not_mem hc, show (plst lo hi ss i).contains x = false from by rw [← Bool.not_eq_true, List.contains_iff_mem]; exact hc]
                exact ⟨kept_ext (XB.out.trans XQ.out) HG.out.ds, by rw [e1]; exact kept_ext (XB.out.trans XQ.out) HG.out.ls, by rw [e1]; exact hle, by rw [e1], HG.out.far, HG.out.ext.trans (XB.out.trans XQ.out)⟩)
              go_wp2_with (at_builtin; refine wpList_append_lies _ rfl (.tmp 69) (.tmp 71) 39 rfl w1.heap.size 4 i0 (.bool false) 1 1 Tryd.underlying39 INF.out.1 INF.out.2.1 INF.out.2.2.1 INF.out.2.2.2 rfl (by decide) _ i (bls (pdon lo hi ss i)) rfl (kept_ext ((Ext.refl _).alloc _) PJ6.out.ds) ⟨wr.heap.size, 0, none⟩ 1 1 [.bool false] rfl rfl (World.news_of_block (cs := #[.bool false]) (t := 4) (fr := (0, 0)) (heap_alloc_new wr _)) (by simp [Value.oneCell']) (by omega) (by simp only [maxLen]; omega) (by omega) (by have := PJ6.out.ext.size; rw [World.size_alloc]; omega) (wr.heap.size + 1) (by simp) ?_)
              intro g4 cap4 w7 hown hgrow hat hlt7
              have G2 := Lib.hid (PJ6.out.next HSS.out hown hgrow hat)
              clear hown hgrow hat hlt7
              go_wp2
              go_roundg (gR - 1)
              case measure => omega
              case rel => exact ⟨i + 1, g4, cap4, g2, j, cap2, by omega, by go_num, rfl, rfl, G2.out⟩
          · have PJ6 := Lib.hid hpj
            clear hpj hxq
            go_wp2_with (at_builtin; refine wpList_append_lies _ rfl (.tmp 69) (.tmp 71) 39 rfl w1.heap.size 4 i0 (.bool false) 1 1 Tryd.underlying39 INF.out.1 INF.out.2.1 INF.out.2.2.1 INF.out.2.2.2 rfl (by decide) _ i (bls (pdon lo hi ss i)) rfl (kept_ext ((Ext.refl _).alloc _) PJ6.out.ds) ⟨wr.heap.size, 0, none⟩ 1 1 [.bool true] rfl rfl (World.news_of_block (cs := #[.bool true]) (t := 4) (fr := (0, 0)) (heap_alloc_new wr _)) (by simp [Value.oneCell']) (by omega) (by simp only [maxLen]; omega) (by omega) (by have := PJ6.out.ext.size; rw [World.size_alloc]; omega) (wr.heap.size + 1) (by simp) ?_)
            intro g4 cap4 w7 hown hgrow hat hlt7
            have G2 := Lib.hid (PJ6.out.next HSS.out hown hgrow hat)
            clear hown hgrow hat hlt7
            go_wp2
            go_roundg (gR - 1)
            case measure => omega
            case rel => exact ⟨i + 1, g4, cap4, g3, n3, cap3, by omega, by go_num, rfl, rfl, G2.out⟩
    · have hi2 : i = ss.length := by omega
      subst hi2
      have FIN := Lib.hid (show PlaySays lo hi ss w (.returned (.tuple #[.slice (some ⟨g, 0, none⟩) ss.length cap, .slice (some ⟨g2, 0, none⟩) n cap2])) wo from ⟨g, cap, g2, cap2, by rw [HG.out.len], own_mono HG.out.ds X1.out.size, (by unfold OwnI; rw [HG.out.len]; exact own_mono HG.out.ls X1.out.size), X1.out.trans HG.out.ext⟩)
      go_wp2_with fail
      exact bodyPost_ret (v := .tuple #[.slice (some ⟨g, 0, none⟩) ss.length cap, .slice (some ⟨g2, 0, none⟩) n cap2]) (by simp [results, Tryd.results16, go_sem]) rfl FIN.out

end Go.Proofs.YtmmmknmncdlopaaDoor
