/- (*Quadtree).KNearestMatching without a filter. Conditions: 1 to 63 asked for; no more than a million items. -/
import Derived.Test.YtmmmknmncdlopaaDoorNeaB
import Derived.Test.YtmmmknmncdlopaaDoorQuadP
import Derived.Laws.MakeOwn
import Derived.Deep.OwnRows
import Derived.BigRegion
namespace Go.Proofs.YtmmmknmncdlopaaDoor
open Go.ChangeShapes Go.WideShapes Go.ChangeAt Go.RowKit
open Go.Proofs.YtmmmknmncdlopaaDoor.F

theorem infoH : (Tryd.prog.info? 118).map (fun i => (i.zero, i.size, i.bytes)) = some (some (.agg #[.nilIface, fl 0]), 2, 24) := by kernel_rfl
theorem infoQ : (Tryd.prog.info? 77).map (fun i => (i.zero, i.size, i.bytes)) = some (some .nilIface, 1, 16) := by kernel_rfl
/-- The row of the heap, as makeSlice lays it. -/
def hrow (k : Nat) : Obj := .cells (madeCells #[.nilIface, fl 0] ((k + 1) * 2)) 118
theorem make_heap (k : Nat) (hk : k ≤ 63) : ∀ W : World, (Instr.makeSlice 114 (.int .i64 0) (.int .i64 ((k : Int) + 1))).run Tryd.prog W = .ok (.slice (some ⟨W.heap.size, 0, none⟩) 0 (k + 1)) (W.alloc (hrow k)) := fun W => by
  obtain ⟨i0, hi0, hz0, hz1, hz2⟩ := info_parts infoH
  have h := run_make W 114 118 i0 _ Tryd.underlying114 hi0 hz0 .i64 .i64 0 ((k : Int) + 1) (by omega) (by omega) (by rw [hz2]; omega) (by omega)
  rw [hz1] at h
  exact h
theorem make_out (n : Nat) (hn : n ≤ 63) : ∀ W : World, (Instr.makeSlice 60 (.int .i64 (n : Int)) (.int .i64 (n : Int))).run Tryd.prog W = .ok (.slice (some ⟨W.heap.size, 0, none⟩) n n) (W.alloc (.cells (madeCells #[.nilIface] n) 77)) := fun W =>
  run_make_row' 60 77 .nilIface 16 Tryd.underlying60 infoQ rfl .i64 .i64 n (by omega) (by omega) W
theorem rep_set (m : Nat) (us : List T3) (t : T3) : (List.replicate (m + 1) Value.nilIface ++ ivs us).set m (iv (some t)) = List.replicate m Value.nilIface ++ ivs (t :: us) := by
  rw [List.replicate_succ', List.append_assoc, List.set_append_right _ _ (by simp), List.length_replicate, Nat.sub_self]; rfl
/-- What KNearest hands back: the nearest, ascending. -/
def NearestSays (k : Nat) (x y : Int) (M : Int) (t : Tr) (w : World) (e : Ending) (w' : World) : Prop :=
  ∃ sv us R, e = .returned sv ∧ w'.ownsRow w.heap.size 77 1 sv us.length (ivs us) ∧ (us ++ R).Perm (its t) ∧ us.Pairwise (fun p q => dsq x y p ≤ dsq x y q) ∧ (∀ u ∈ us, dsq x y u < M) ∧ us.length ≤ k ∧
    (∀ r ∈ R, M ≤ dsq x y r ∨ (us.length = k ∧ ∀ u ∈ us, dsq x y u ≤ dsq x y r)) ∧ Ext w w'
theorem nea_done {x y : Int} {k : Nat} {M : Int} {mw : Nat} {t : Tr} {l r b tp m : Nat} {hs us : List T3} {bx : B4} (hI : NeaI x y k M mw (nds t ++ []) (l, b, r, tp) hs m bx) (hus : us.Perm hs) (hR : Reg t l r b tp) :
    ∃ R, (us ++ R).Perm (its t) ∧ (∀ u ∈ us, dsq x y u < M) ∧ us.length ≤ k ∧ ∀ r ∈ R, M ≤ dsq x y r ∨ (us.length = k ∧ ∀ u ∈ us, dsq x y u ≤ dsq x y r) := by
  obtain ⟨R, hp, hc⟩ := hI.ex
  rw [List.append_nil] at hp
  have hin : ∀ z ∈ R, ¬ OutB z (l, b, r, tp) := fun z hz ho => by
    have h2 := inr_iff.2 (reg_its hR z (hp.mem_iff.1 (List.mem_append.2 (.inr hz))))
    rw [outB_of ho] at h2; cases h2
  refine ⟨R, (hus.append_right R).trans hp, fun u hu => (hI.lt u (hus.mem_iff.1 hu)).1, by rw [hus.length_eq]; exact hI.len, fun z hz => ?_⟩
  rcases hc with ⟨_, _, _, h4⟩ | ⟨t, h1, h2, _, _, h5⟩
  · rcases h4 z hz with h | h
    · exact absurd h (hin z hz)
    · exact .inl h
  · rcases h5 z hz with h | h | h
    · exact absurd h (hin z hz)
    · exact .inl h
    · exact .inr ⟨by rw [hus.length_eq]; exact h1, fun u hu => Int.le_trans (hI.hp.top_mem h2 u (hus.mem_iff.1 hu)) h⟩
/-- While the heap is emptied into the row. -/
structure Emp (W w : World) (a g bb K n m : Nat) (c0 c1 c2 c3 c5 c6 : Value) (kw : T3 → Nat) (d : T3 → Int) (hs H us : List T3) : Prop where
  hl : HL W.heap.size w w a g K m c0 c1 c2 c3 c5 c6 (hcs kw H)
  own : w.ownsRow W.heap.size 77 1 (.slice (some ⟨bb, 0, none⟩) n n) n (List.replicate m .nilIface ++ ivs us)
  hp : Hp d H
  perm : (us ++ H).Perm hs
  asc : us.Pairwise (fun p q => d p ≤ d q)
  le : ∀ h ∈ H, ∀ u ∈ us, d h ≤ d u
  ext : Ext W w
  wa : W.heap.size ≤ a
  ab : a ≠ bb
  gb : g ≠ bb

set_option maxRecDepth 8000 in
set_option maxHeartbeats 6400000 in
theorem kn_top {B q l b r tp : Nat} {t : Tr} {w : World} {x y : Int} {k : Nat} (hx : x.natAbs ≤ 65536) (hy : y.natAbs ≤ 65536) (T : Tree w B q l b r tp t) (hk1 : 1 ≤ k) (hk2 : k ≤ 63) (hN : (nds t).length ≤ 1048576) :
    Calls Tryd.prog 47 #[pt q, .slice none 0 0, .agg #[fl (I x), fl (I y)], .int .i64 (k : Nat), .nilFunc, .slice none 0 0] w (NearestSays k x y (2 ^ 50) t w) := by
  have HT := Lib.hid T; have HN := Lib.hid hN; have HX := Lib.hid hx; have HY := Lib.hid hy
  clear hN hx hy
  have hq : q < w.heap.size := T.lt
  have st := st_fl
  rcases t with _ | ⟨kn, u, c0, c1, c2, c3⟩
  · have CQ := cell_of_blk (show w.heap[q]? = some (.cells #[fl l, fl b, fl r, fl tp, .pointer none] 95 (0, 0)) from T.hq)
    clear T
    go_enter Tryd.func47, Tryd.ntmps47
    go_wp2_with fail
    go_ret
    exact ⟨.slice none 0 0, [], [], rfl, World.ownsRow_nil _ _ _ _, .refl _, .nil, by simp, by simp, by simp, (Ext.refl _).alloc _⟩
  · have CQ := cell_of_blk (show w.heap[q]? = some (.cells #[fl l, fl b, fl r, fl tp, pt kn] 95 (0, 0)) from T.hq)
    clear T
    have hmk := make_heap k hk2
    have hka : IntKind.i64.wrap ((k : Int) + 1) = (k : Int) + 1 := IntWalk.i64_in _ (by omega)
    go_enter Tryd.func47, Tryd.ntmps47
    go_wp2_with fail
    go_region
    clear CQ hmk hka
    have X := Lib.hid (show Ext w ((((w.alloc (.cells #[fl (I x), fl (I y)] 64)).alloc (.cells #[fl l, fl b, fl r, fl tp] 67)).alloc (hrow k)).alloc (.cells #[fl (I x), fl (I y), .nilFunc, .int .i64 (k : Nat), .slice (some ⟨w.heap.size + 1 + 1, 0, none⟩) 0 (k + 1), pt (w.heap.size + 1), fl 9218868437227405311] 116)).drew from (((((Ext.refl w).alloc _).alloc _).alloc _).alloc _).drew)
    have KB := Lib.hid (show ((((w.alloc (.cells #[fl (I x), fl (I y)] 64)).alloc (.cells #[fl l, fl b, fl r, fl tp] 67)).alloc (hrow k)).alloc (.cells #[fl (I x), fl (I y), .nilFunc, .int .i64 (k : Nat), .slice (some ⟨w.heap.size + 1 + 1, 0, none⟩) 0 (k + 1), pt (w.heap.size + 1), fl 9218868437227405311] 116)).drew.heap[(w.alloc (.cells #[fl (I x), fl (I y)] 64)).heap.size]? = some (.cells #[fl l, fl b, fl r, fl tp] 67 (0, 0)) from blk_old (blk_old (blk_new (w.alloc (.cells #[fl (I x), fl (I y)] 64)) (.cells #[fl l, fl b, fl r, fl tp] 67)) (hrow k)) (.cells #[fl (I x), fl (I y), .nilFunc, .int .i64 (k : Nat), .slice (some ⟨w.heap.size + 1 + 1, 0, none⟩) 0 (k + 1), pt (w.heap.size + 1), fl 9218868437227405311] 116))
    have KG := Lib.hid (show ((((w.alloc (.cells #[fl (I x), fl (I y)] 64)).alloc (.cells #[fl l, fl b, fl r, fl tp] 67)).alloc (hrow k)).alloc (.cells #[fl (I x), fl (I y), .nilFunc, .int .i64 (k : Nat), .slice (some ⟨w.heap.size + 1 + 1, 0, none⟩) 0 (k + 1), pt (w.heap.size + 1), fl 9218868437227405311] 116)).drew.ownsRow w.heap.size 118 2 (.slice (some ⟨((w.alloc (.cells #[fl (I x), fl (I y)] 64)).alloc (.cells #[fl l, fl b, fl r, fl tp] 67)).heap.size, 0, none⟩) 0 (k + 1)) 0 [] from
      kept_ext (((Ext.refl (((w.alloc (.cells #[fl (I x), fl (I y)] 64)).alloc (.cells #[fl l, fl b, fl r, fl tp] 67)).alloc (hrow k))).alloc (.cells #[fl (I x), fl (I y), .nilFunc, .int .i64 (k : Nat), .slice (some ⟨w.heap.size + 1 + 1, 0, none⟩) 0 (k + 1), pt (w.heap.size + 1), fl 9218868437227405311] 116)).drew) (World.ownsRow_made ((w.alloc (.cells #[fl (I x), fl (I y)] 64)).alloc (.cells #[fl l, fl b, fl r, fl tp] 67)) _ (k + 1) (by simp only [World.size_alloc]; omega) (by simp only [maxLen]; omega) (size_madeCells _ _)))
    have KA := Lib.hid (show ((((w.alloc (.cells #[fl (I x), fl (I y)] 64)).alloc (.cells #[fl l, fl b, fl r, fl tp] 67)).alloc (hrow k)).alloc (.cells #[fl (I x), fl (I y), .nilFunc, .int .i64 (k : Nat), .slice (some ⟨w.heap.size + 1 + 1, 0, none⟩) 0 (k + 1), pt (w.heap.size + 1), fl 9218868437227405311] 116)).drew.heap[(((w.alloc (.cells #[fl (I x), fl (I y)] 64)).alloc (.cells #[fl l, fl b, fl r, fl tp] 67)).alloc (hrow k)).heap.size]? = some (.cells #[fl (I x), fl (I y), .nilFunc, .int .i64 (k : Nat), .slice (some ⟨w.heap.size + 1 + 1, 0, none⟩) 0 (k + 1), pt (w.heap.size + 1), fl 9218868437227405311] 116 (0, 0)) from blk_new (((w.alloc (.cells #[fl (I x), fl (I y)] 64)).alloc (.cells #[fl l, fl b, fl r, fl tp] 67)).alloc (hrow k)) (.cells #[fl (I x), fl (I y), .nilFunc, .int .i64 (k : Nat), .slice (some ⟨w.heap.size + 1 + 1, 0, none⟩) 0 (k + 1), pt (w.heap.size + 1), fl 9218868437227405311] 116))
    have HSZ : ((((w.alloc (.cells #[fl (I x), fl (I y)] 64)).alloc (.cells #[fl l, fl b, fl r, fl tp] 67)).alloc (hrow k)).alloc (.cells #[fl (I x), fl (I y), .nilFunc, .int .i64 (k : Nat), .slice (some ⟨w.heap.size + 1 + 1, 0, none⟩) 0 (k + 1), pt (w.heap.size + 1), fl 9218868437227405311] 116)).drew.heap.size = w.heap.size + 1 + 1 + 1 + 1 := show ((((w.alloc (.cells #[fl (I x), fl (I y)] 64)).alloc (.cells #[fl l, fl b, fl r, fl tp] 67)).alloc (hrow k)).alloc (.cells #[fl (I x), fl (I y), .nilFunc, .int .i64 (k : Nat), .slice (some ⟨w.heap.size + 1 + 1, 0, none⟩) 0 (k + 1), pt (w.heap.size + 1), fl 9218868437227405311] 116)).heap.size = _ by simp only [World.size_alloc]
    generalize ((((w.alloc (.cells #[fl (I x), fl (I y)] 64)).alloc (.cells #[fl l, fl b, fl r, fl tp] 67)).alloc (hrow k)).alloc (.cells #[fl (I x), fl (I y), .nilFunc, .int .i64 (k : Nat), .slice (some ⟨w.heap.size + 1 + 1, 0, none⟩) 0 (k + 1), pt (w.heap.size + 1), fl 9218868437227405311] 116)).drew = wb at *
    simp only [World.size_alloc, hrow] at KB KG KA
    generalize hea : w.heap.size + 1 + 1 + 1 = a at *
    generalize heg : w.heap.size + 1 + 1 = g at *
    generalize hek : w.heap.size + 1 = kb at *
    have hS : kb = w.heap.size + 1 ∧ g = w.heap.size + 2 ∧ a = w.heap.size + 3 ∧ wb.heap.size = w.heap.size + 4 := by omega
    have HS0 := Lib.hid hS
    have hwa : w.heap.size ≤ a := by omega
    have hgW : w.heap.size ≤ g := by omega
    have hag : a ≠ g := by omega
    have hga : g ≠ a := by omega
    clear hea heg hek HSZ hS
    have HBS := Lib.hid (rfl : wb.heap.size = wb.heap.size)
    go_wp2_with fail
    have TB := Lib.hid (HT.out.ext X.out)
    have HS := Lib.hid (show ∀ w' : World, w'.heap[q]? = wb.heap[q]? → (w'.cell? ⟨q, 0, none⟩ = some (fl l) ∧ w'.cell? ⟨q, 1, none⟩ = some (fl b) ∧ w'.cell? ⟨q, 2, none⟩ = some (fl r) ∧ w'.cell? ⟨q, 3, none⟩ = some (fl tp) ∧ w'.cell? ⟨q, 4, none⟩ = some (pt kn)) from fun w' h => by
      have c := cell_of_blk (h.trans TB.out.hq)
      exact ⟨c 0, c 1, c 2, c 3, c 4⟩)
    have hqb : q < wb.heap.size := TB.out.lt
    have V := Lib.hid (nea_vis (a := a) (v := wb.heap.size) (kb := kb) (g := g) (B := w.heap.size) (R := w.heap.size) (M := 2 ^ 50) (mw := maxF) (b0 := (l, b, r, tp)) 1048576 HX.out HY.out below_max (by have := HS0.out; have := HBS.out; constructor <;> omega) hk1 hk2)
    have KV := Lib.hid (blk_new wb (.cells #[.iface 112 (pt a)] 122))
    have P0 := Lib.hid (show NeaP a wb.heap.size kb g w.heap.size w.heap.size k x y (2 ^ 50) (maxF) (l, b, r, tp) (wb.drew.alloc (.cells #[.iface 112 (pt a)] 122)) [] from
      ⟨[], maxF, (l, b, r, tp), ⟨KV.out, (blk_old KA.out _ : (wb.alloc _).heap[a]? = _), (blk_old KB.out _ : (wb.alloc _).heap[kb]? = _), kept_ext (((Ext.refl wb).drew).alloc _) KG.out, by have := HS0.out; have := HBS.out; simp; omega, Below.refl _ _⟩, ⟨HT.out.bd.1.1, HT.out.bd.2.2.1.1, HT.out.bd.2.1.1, HT.out.bd.2.2.2.1⟩, ⟨Hp.nil, by simp, [], .refl _, .inl ⟨rfl, rfl, by simp, by simp⟩⟩⟩)
    have TV := Lib.hid (TB.out.frame (w' := wb.drew.alloc (.cells #[.iface 112 (pt a)] 122)) fun j hj => heap_alloc_old wb.drew _ hj)
    have HLT := Lib.hid (fun j hj => HT.out.at'.lt j hj)
    clear KA KB KG
    go_region_held3 (fun w' => w'.cell? ⟨q, 0, none⟩ = some (fl l) ∧ w'.cell? ⟨q, 1, none⟩ = some (fl b) ∧ w'.cell? ⟨q, 2, none⟩ = some (fl r) ∧ w'.cell? ⟨q, 3, none⟩ = some (fl tp) ∧ w'.cell? ⟨q, 4, none⟩ = some (pt kn))
      (first | exact HS.out _ rfl | exact HS.out _ (heap_alloc_old _ _ hqb) | exact HS.out _ HQV)
      (first
        | (go_at_call 48
           refine (newvisit_any _ _ _).mono ?_
           rintro e w4 ⟨rfl, rfl⟩)
        | (go_at_call 49
           refine (visit_any V.out (.node kn u c0 c1 c2 c3) l r b tp _ [] (by simp) TV.out.at' HLT.out TV.out.reg TV.out.sm TV.out.bd.1 TV.out.bd.2.1 TV.out.bd.2.2.1 TV.out.bd.2.2.2 P0.out (by simpa using HN.out)).mono ?_
           rintro e w5 ⟨rfl, hP5, hb5⟩
           have HP5 := Lib.hid hP5
           have HB5 := Lib.hid hb5
           have HQV : w5.heap[q]? = wb.heap[q]? := (hb5.block q hq).trans (heap_alloc_old wb.drew _ hqb)
           clear hP5 hb5))
    have B5 := Lib.hid (Below.trans (show Below w.heap.size w _ from (X.out.drew).alloc _) HB5.out)
    obtain ⟨hs, m, bx, hL5, _, hI5⟩ := HP5.out
    have HL5 := Lib.hid (show HL w.heap.size w5 w5 a g (k + 1) hs.length (fl (I x)) (fl (I y)) .nilFunc (.int .i64 (k : Nat)) (pt kb) (fl m) (hcs (dw x y) hs) from ⟨hL5.ha, hL5.own, hag, Mod.of_ext (Ext.refl _)⟩)
    have HI5 := Lib.hid hI5
    have hlk := hI5.len
    clear hL5 hI5 HP5 HQV TV P0 KV V HS TB hqb HB5 X
    have CA := cell_of_blk HL5.out.ha
    by_cases hz : hs.length = 0
    · have hnil : hs = [] := List.eq_nil_of_length_eq_zero hz
      subst hnil
      clear hz hlk
      have HD := Lib.hid (nea_done HI5.out (.refl _) HT.out.reg)
      simp only [List.length_nil] at CA
      go_wp2_with fail
      go_loopg [15] 0 (fun r iv wr => r = 0 ∧ iv = .int .i64 (-1) ∧ wr = w5)
      case atStart => exact ⟨rfl, rfl, rfl⟩
      case round =>
        obtain ⟨-, rfl, rfl⟩ := hrel
        obtain ⟨R, h1, h2, h3, h4⟩ := HD.out
        have FIN := Lib.hid (show NearestSays k x y (2 ^ 50) (.node kn u c0 c1 c2 c3) w (.returned (.slice none 0 0)) wr from ⟨.slice none 0 0, [], R, rfl, World.ownsRow_nil _ _ _ _, h1, .nil, h2, h3, h4, B5.out⟩)
        clear h1 h2 h3 h4 HD
        go_wp2_with fail
        go_ret
        exact FIN.out
    · obtain ⟨n, hn⟩ : ∃ n, n = hs.length := ⟨_, rfl⟩
      have HLN := Lib.hid hn
      rw [← hn] at CA hz hlk
      have dn : decide ((0 : Int) < (n : Int)) = true := by simp; omega
      have dn2 : decide (0 < n) = true := by simp; omega
      have hmk := make_out n (by omega)
      have ha5 := (Array.getElem?_eq_some_iff.1 HL5.out.ha).1
      have hg5 := (own_lt HL5.out.own).2
      have hw5 := B5.out.size
      have HSM := Lib.hid (show ∀ z ∈ hs, Sm z from fun z hz => (HI5.out.lt z hz).2)
      have E0 := Lib.hid (show Emp w (w5.alloc (.cells (madeCells #[.nilIface] n) 77)) a g w5.heap.size (k + 1) n n (fl (I x)) (fl (I y)) .nilFunc (.int .i64 (k : Nat)) (pt kb) (fl m) (dw x y) (dsq x y) hs hs [] from
        ⟨by have h := HL5.out; rw [← hn] at h; exact ⟨blk_old h.ha _, kept_ext ((Ext.refl _).alloc _) h.own, hag, Mod.of_ext (Ext.refl _)⟩,
          ⟨by simp [ivs], .inr ⟨_, n, _, rfl, hw5, blk_new w5 _, Nat.le_refl _, by simp only [maxLen]; omega, by simp [size_madeCells], by rw [toList_madeCells_one]; simp [ivs]⟩⟩,
          HI5.out.hp, .refl _, .nil, by simp, Below.trans B5.out (Below.mono ((Ext.refl w5).alloc _) hw5), hwa, by omega, by omega⟩)
      clear hn
      go_wp2_with fail
      have hb5 : w5.heap.size < (w5.alloc (.cells (madeCells #[.nilIface] n) 77)).heap.size := by simp
      generalize w5.alloc (.cells (madeCells #[.nilIface] n) 77) = w6 at *
      generalize w5.heap.size = bb at *
      clear CA dn dn2 hmk HL5 B5
      go_loopg [15] n (fun r iv wr => ∃ (j : Nat) (H us : List T3), r = j ∧ j ≤ n ∧ iv = .int .i64 ((j : Int) - 1) ∧ Emp w wr a g bb (k + 1) n j (fl (I x)) (fl (I y)) .nilFunc (.int .i64 (k : Nat)) (pt kb) (fl m) (dw x y) (dsq x y) hs H us)
      case atStart => exact ⟨n, hs, [], rfl, Nat.le_refl _, rfl, E0.out⟩
      case round =>
        obtain ⟨j, H, us, hri, hjn, rfl, hE⟩ := hrel
        obtain rfl := hri.symm
        have HE := Lib.hid hE
        clear E0 hE
        rcases j with _ | j
        · have FIN := Lib.hid (show NearestSays k x y (2 ^ 50) (.node kn u c0 c1 c2 c3) w (.returned (.slice (some ⟨bb, 0, none⟩) n n)) wr from by
            have h := HE.out
            have hH : H = [] := List.eq_nil_of_length_eq_zero h.hl.len
            subst hH
            have hp := h.perm
            rw [List.append_nil] at hp
            have hun : us.length = n := by rw [hp.length_eq, HLN.out]
            obtain ⟨R, h1, h2, h3, h4⟩ := nea_done HI5.out hp HT.out.reg
            exact ⟨_, us, R, rfl, by rw [hun]; exact h.own, h1, h.asc, h2, h3, h4, h.ext⟩)
          clear HE
          go_wp2_with fail
          go_ret
          exact FIN.out
        · have hj1 : ((j + 1 : Nat) : Int) - 1 = (j : Int) := by omega
          rw [hj1]
          have hlen := Lib.hid HE.out.hl.len
          obtain ⟨t, ht⟩ : ∃ t, H[0]? = some t := ⟨_, List.getElem?_eq_getElem (by have := hlen.out; omega)⟩
          obtain ⟨e0', _⟩ := HE.out.hl.cells ht
          rw [Nat.zero_mul] at e0'
          have e0 : wr.cell? ⟨g, 0, none⟩ = some (.iface 25 (.agg #[.int .i64 t.1, .int .i64 t.2.1, .int .i64 t.2.2])) := e0'
          have HTT := Lib.hid ht
          have CA := cell_of_blk HE.out.hl.ha
          have FB := HE.out.own.frozenAt
          have hjn' : j < n := hjn
          have hab := HE.out.ab
          obtain ⟨z, e1⟩ : ∃ z, wr.cell? ⟨bb, j, none⟩ = some z := ⟨_, by rw [HE.out.own.cellAt j (by omega)]; exact List.getElem?_eq_getElem (by rw [HE.out.own.1]; omega)⟩
          have HSM2 := Lib.hid (show ∀ z ∈ H, Sm z from fun z hz => HSM.out z (HE.out.perm.mem_iff.1 (List.mem_append.2 (.inr hz))))
          have E2 := Lib.hid (show HL w.heap.size (wr.setCell ⟨bb, j, none⟩ (iv (some t))) (wr.setCell ⟨bb, j, none⟩ (iv (some t))) a g (k + 1) (j + 1) (fl (I x)) (fl (I y)) .nilFunc (.int .i64 (k : Nat)) (pt kb) (fl m) (hcs (dw x y) H) from
            ⟨(blk_setCell_ne HE.out.ab _ _).trans HE.out.hl.ha, own_keep HE.out.hl.own (blk_setCell_ne HE.out.gb _ _), hag, Mod.of_ext (Ext.refl _)⟩)
          have O2 := Lib.hid (show (wr.setCell ⟨bb, j, none⟩ (iv (some t))).ownsRow w.heap.size 77 1 (.slice (some ⟨bb, 0, none⟩) n n) n (List.replicate j .nilIface ++ ivs (t :: us)) from by
            have := own_set HE.out.own j (iv (some t)) (by omega)
            rwa [rep_set] at this)
          have X2 := Lib.hid (show Ext w (wr.setCell ⟨bb, j, none⟩ (iv (some t))) from HE.out.ext.setCell (own_lt HE.out.own).1 _)
          obtain ⟨H0, z0, hHl⟩ : ∃ H0 z0, H = H0 ++ [z0] := ⟨H.dropLast, H.getLast (by intro e; rw [e] at hlen; have := hlen.out; simp at this), (List.dropLast_concat_getLast _).symm⟩
          have hpop := pop_any (kw := dw x y) (d := dsq x y) (R := w.heap.size) (n := j) (by have := E2.out; rw [hHl] at this; exact this) (by omega) (by rw [← hHl]; exact HSM2.out) (by rw [← hHl]; exact HE.out.hp) (by rw [← hHl]; exact ht) (key_dsq HX.out HY.out)
          rw [← hHl] at hpop
          have HPOP := Lib.hid hpop
          clear hpop ht hHl e0' hlen
          go_wp2_with fail
          refine HPOP.out.mono ?_
          rintro e w7 ⟨rfl, H', hl7, hperm7, hHp7⟩
          have E7 := Lib.hid (show Emp w w7 a g bb (k + 1) n j (fl (I x)) (fl (I y)) .nilFunc (.int .i64 (k : Nat)) (pt kb) (fl m) (dw x y) (dsq x y) hs H' (t :: us) from
            ⟨⟨hl7.ha, hl7.own, hag, Mod.of_ext (Ext.refl _)⟩,
              own_keep O2.out (hl7.mod.block bb (own_lt O2.out).2 (by simp only [List.mem_cons, List.not_mem_nil, or_false, not_or]; exact ⟨Ne.symm HE.out.ab, Ne.symm HE.out.gb⟩)),
              hHp7,
              by
                have h1 : ((t :: us) ++ H').Perm (us ++ (t :: H')) := List.perm_middle.symm
                exact h1.trans ((hperm7.append_left us).trans HE.out.perm),
              List.pairwise_cons.2 ⟨fun u hu => HE.out.le t (List.mem_of_getElem? HTT.out) u hu, HE.out.asc⟩,
              fun h hh u hu => by
                have hm : h ∈ H := hperm7.mem_iff.1 (List.mem_cons_of_mem _ hh)
                rcases List.mem_cons.1 hu with rfl | hu
                · exact HE.out.hp.top_mem HTT.out h hm
                · exact HE.out.le h hm u hu,
              Below.trans X2.out (hl7.mod.below X2.out.size (fun i hi => by
                simp only [List.mem_cons, List.not_mem_nil, or_false] at hi
                rcases hi with rfl | rfl
                · exact hwa
                · exact hgW)), hwa, HE.out.ab, HE.out.gb⟩)
          clear HPOP hl7 hperm7 hHp7 HE E2 O2 X2 CA FB e0 e1
          go_wp2_with fail
          go_roundg j
          case measure => omega
          case rel => exact ⟨j, H', t :: us, rfl, by omega, rfl, E7.out⟩

set_option maxRecDepth 8000 in
set_option maxHeartbeats 6400000 in
theorem kn_within {B q l b r tp : Nat} {t : Tr} {w : World} {x y : Int} {k : Nat} {gm s : Nat} (hx : x.natAbs ≤ 65536) (hy : y.natAbs ≤ 65536) (T : Tree w B q l b r tp t) (hk1 : 1 ≤ k) (hk2 : k ≤ 63) (hN : (nds t).length ≤ 1048576) (hs1 : s ≤ 65536) (hm : w.cell? ⟨gm, 0, none⟩ = some (fl (I s))) :
    Calls Tryd.prog 47 #[pt q, .slice none 0 0, .agg #[fl (I x), fl (I y)], .int .i64 (k : Nat), .nilFunc, .slice (some ⟨gm, 0, none⟩) 1 1] w (NearestSays k x y ((s : Int) * (s : Int)) t w) := by
  have HT := Lib.hid T; have HN := Lib.hid hN; have HX := Lib.hid hx; have HY := Lib.hid hy; have HM := Lib.hid hm; clear hm
  clear hN hx hy
  have hq : q < w.heap.size := T.lt
  have st := st_fl
  rcases t with _ | ⟨kn, u, c0, c1, c2, c3⟩
  · have CQ := cell_of_blk (show w.heap[q]? = some (.cells #[fl l, fl b, fl r, fl tp, .pointer none] 95 (0, 0)) from T.hq)
    clear T
    go_enter Tryd.func47, Tryd.ntmps47
    go_wp2_with fail
    go_ret
    exact ⟨.slice none 0 0, [], [], rfl, World.ownsRow_nil _ _ _ _, .refl _, .nil, by simp, by simp, by simp, (Ext.refl _).alloc _⟩
  · have CQ := cell_of_blk (show w.heap[q]? = some (.cells #[fl l, fl b, fl r, fl tp, pt kn] 95 (0, 0)) from T.hq)
    clear T
    have hmk := make_heap k hk2
    have hka : IntKind.i64.wrap ((k : Int) + 1) = (k : Int) + 1 := IntWalk.i64_in _ (by omega)
    go_enter Tryd.func47, Tryd.ntmps47
    go_wp2_with fail
    go_region
    clear CQ hmk hka
    have X := Lib.hid (show Ext w ((((w.alloc (.cells #[fl (I x), fl (I y)] 64)).alloc (.cells #[fl l, fl b, fl r, fl tp] 67)).alloc (hrow k)).alloc (.cells #[fl (I x), fl (I y), .nilFunc, .int .i64 (k : Nat), .slice (some ⟨w.heap.size + 1 + 1, 0, none⟩) 0 (k + 1), pt (w.heap.size + 1), fl 9218868437227405311] 116)).drew from (((((Ext.refl w).alloc _).alloc _).alloc _).alloc _).drew)
    have KB := Lib.hid (show ((((w.alloc (.cells #[fl (I x), fl (I y)] 64)).alloc (.cells #[fl l, fl b, fl r, fl tp] 67)).alloc (hrow k)).alloc (.cells #[fl (I x), fl (I y), .nilFunc, .int .i64 (k : Nat), .slice (some ⟨w.heap.size + 1 + 1, 0, none⟩) 0 (k + 1), pt (w.heap.size + 1), fl 9218868437227405311] 116)).drew.heap[(w.alloc (.cells #[fl (I x), fl (I y)] 64)).heap.size]? = some (.cells #[fl l, fl b, fl r, fl tp] 67 (0, 0)) from blk_old (blk_old (blk_new (w.alloc (.cells #[fl (I x), fl (I y)] 64)) (.cells #[fl l, fl b, fl r, fl tp] 67)) (hrow k)) (.cells #[fl (I x), fl (I y), .nilFunc, .int .i64 (k : Nat), .slice (some ⟨w.heap.size + 1 + 1, 0, none⟩) 0 (k + 1), pt (w.heap.size + 1), fl 9218868437227405311] 116))
    have KG := Lib.hid (show ((((w.alloc (.cells #[fl (I x), fl (I y)] 64)).alloc (.cells #[fl l, fl b, fl r, fl tp] 67)).alloc (hrow k)).alloc (.cells #[fl (I x), fl (I y), .nilFunc, .int .i64 (k : Nat), .slice (some ⟨w.heap.size + 1 + 1, 0, none⟩) 0 (k + 1), pt (w.heap.size + 1), fl 9218868437227405311] 116)).drew.ownsRow w.heap.size 118 2 (.slice (some ⟨((w.alloc (.cells #[fl (I x), fl (I y)] 64)).alloc (.cells #[fl l, fl b, fl r, fl tp] 67)).heap.size, 0, none⟩) 0 (k + 1)) 0 [] from
      kept_ext (((Ext.refl (((w.alloc (.cells #[fl (I x), fl (I y)] 64)).alloc (.cells #[fl l, fl b, fl r, fl tp] 67)).alloc (hrow k))).alloc (.cells #[fl (I x), fl (I y), .nilFunc, .int .i64 (k : Nat), .slice (some ⟨w.heap.size + 1 + 1, 0, none⟩) 0 (k + 1), pt (w.heap.size + 1), fl 9218868437227405311] 116)).drew) (World.ownsRow_made ((w.alloc (.cells #[fl (I x), fl (I y)] 64)).alloc (.cells #[fl l, fl b, fl r, fl tp] 67)) _ (k + 1) (by simp only [World.size_alloc]; omega) (by simp only [maxLen]; omega) (size_madeCells _ _)))
    have KA := Lib.hid (show ((((w.alloc (.cells #[fl (I x), fl (I y)] 64)).alloc (.cells #[fl l, fl b, fl r, fl tp] 67)).alloc (hrow k)).alloc (.cells #[fl (I x), fl (I y), .nilFunc, .int .i64 (k : Nat), .slice (some ⟨w.heap.size + 1 + 1, 0, none⟩) 0 (k + 1), pt (w.heap.size + 1), fl 9218868437227405311] 116)).drew.heap[(((w.alloc (.cells #[fl (I x), fl (I y)] 64)).alloc (.cells #[fl l, fl b, fl r, fl tp] 67)).alloc (hrow k)).heap.size]? = some (.cells #[fl (I x), fl (I y), .nilFunc, .int .i64 (k : Nat), .slice (some ⟨w.heap.size + 1 + 1, 0, none⟩) 0 (k + 1), pt (w.heap.size + 1), fl 9218868437227405311] 116 (0, 0)) from blk_new (((w.alloc (.cells #[fl (I x), fl (I y)] 64)).alloc (.cells #[fl l, fl b, fl r, fl tp] 67)).alloc (hrow k)) (.cells #[fl (I x), fl (I y), .nilFunc, .int .i64 (k : Nat), .slice (some ⟨w.heap.size + 1 + 1, 0, none⟩) 0 (k + 1), pt (w.heap.size + 1), fl 9218868437227405311] 116))
    have HSZ : ((((w.alloc (.cells #[fl (I x), fl (I y)] 64)).alloc (.cells #[fl l, fl b, fl r, fl tp] 67)).alloc (hrow k)).alloc (.cells #[fl (I x), fl (I y), .nilFunc, .int .i64 (k : Nat), .slice (some ⟨w.heap.size + 1 + 1, 0, none⟩) 0 (k + 1), pt (w.heap.size + 1), fl 9218868437227405311] 116)).drew.heap.size = w.heap.size + 1 + 1 + 1 + 1 := show ((((w.alloc (.cells #[fl (I x), fl (I y)] 64)).alloc (.cells #[fl l, fl b, fl r, fl tp] 67)).alloc (hrow k)).alloc (.cells #[fl (I x), fl (I y), .nilFunc, .int .i64 (k : Nat), .slice (some ⟨w.heap.size + 1 + 1, 0, none⟩) 0 (k + 1), pt (w.heap.size + 1), fl 9218868437227405311] 116)).heap.size = _ by simp only [World.size_alloc]
    generalize ((((w.alloc (.cells #[fl (I x), fl (I y)] 64)).alloc (.cells #[fl l, fl b, fl r, fl tp] 67)).alloc (hrow k)).alloc (.cells #[fl (I x), fl (I y), .nilFunc, .int .i64 (k : Nat), .slice (some ⟨w.heap.size + 1 + 1, 0, none⟩) 0 (k + 1), pt (w.heap.size + 1), fl 9218868437227405311] 116)).drew = wb at *
    simp only [World.size_alloc, hrow] at KB KG KA
    generalize hea : w.heap.size + 1 + 1 + 1 = a at *
    generalize heg : w.heap.size + 1 + 1 = g at *
    generalize hek : w.heap.size + 1 = kb at *
    have hS : kb = w.heap.size + 1 ∧ g = w.heap.size + 2 ∧ a = w.heap.size + 3 ∧ wb.heap.size = w.heap.size + 4 := by omega
    have HS0 := Lib.hid hS
    have hwa : w.heap.size ≤ a := by omega
    have hgW : w.heap.size ≤ g := by omega
    have hag : a ≠ g := by omega
    have hga : g ≠ a := by omega
    clear hea heg hek HSZ hS
    obtain ⟨wo, rfl⟩ : ∃ wo : World, wo = wb := ⟨_, rfl⟩
    have L1 := fun e : Later wo => (X.out.trans e.h).cell HM.out
    have rmul := run_fl .mul (I s) (I s) _ (I_sq s (by omega))
    go_wp2_with fail
    refine region_ext_tail 10 (by kernel_rfl) (by kernel_rfl) (fun hc => ?_)
    simp only [List.take_succ_cons, List.take_zero, List.drop_succ_cons, List.drop_zero]
    repeat (go_big_quiet_step (fail))
    refine wpQuiet_nil ?_
    rintro w4 ⟨⟨_, hw4⟩, rfl⟩
    have KA4 := Lib.hid (Ext.blk hw4 KA.out); have KB4 := Lib.hid (Ext.blk hw4 KB.out); have KG4 := Lib.hid (kept_ext hw4 KG.out); have X4 := Lib.hid (X.out.trans hw4); have HB4 := Lib.hid hw4.size
    clear L1 rmul hc hw4 KA KB KG X
    have hkb : kb ≠ a := by have := HS0.out; omega
    have CA := cell_of_blk KA4.out
    have FA := free_of_blk KA4.out
    go_wp2_with fail
    have HBS := Lib.hid (show wo.heap.size ≤ (w4.setCell ⟨a, 6, none⟩ (fl (I ((s : Int) * (s : Int))))).heap.size by rw [size_setCell]; exact HB4.out)
    have X := Lib.hid (show Ext w (w4.setCell ⟨a, 6, none⟩ (fl (I ((s : Int) * (s : Int))))) from X4.out.setCell hwa _)
    have KB := Lib.hid (show (w4.setCell ⟨a, 6, none⟩ (fl (I ((s : Int) * (s : Int))))).heap[kb]? = some (.cells #[fl l, fl b, fl r, fl tp] 67 (0, 0)) from (blk_setCell_ne hkb _ _).trans KB4.out)
    have KG := Lib.hid (show (w4.setCell ⟨a, 6, none⟩ (fl (I ((s : Int) * (s : Int))))).ownsRow w.heap.size 118 2 (.slice (some ⟨g, 0, none⟩) 0 (k + 1)) 0 [] from own_keep KG4.out (blk_setCell_ne hga _ _))
    have KA := Lib.hid (show (w4.setCell ⟨a, 6, none⟩ (fl (I ((s : Int) * (s : Int))))).heap[a]? = some (.cells #[fl (I x), fl (I y), .nilFunc, .int .i64 (k : Nat), .slice (some ⟨g, 0, none⟩) 0 (k + 1), pt kb, fl (I ((s : Int) * (s : Int)))] 116 (0, 0)) from by rw [blk_setCell KA4.out]; rfl)
    clear CA FA KA4 KB4 KG4 X4 HB4 hkb
    generalize w4.setCell ⟨a, 6, none⟩ (fl (I ((s : Int) * (s : Int)))) = wb at *
    have TB := Lib.hid (HT.out.ext X.out)
    have HS := Lib.hid (show ∀ w' : World, w'.heap[q]? = wb.heap[q]? → (w'.cell? ⟨q, 0, none⟩ = some (fl l) ∧ w'.cell? ⟨q, 1, none⟩ = some (fl b) ∧ w'.cell? ⟨q, 2, none⟩ = some (fl r) ∧ w'.cell? ⟨q, 3, none⟩ = some (fl tp) ∧ w'.cell? ⟨q, 4, none⟩ = some (pt kn)) from fun w' h => by
      have c := cell_of_blk (h.trans TB.out.hq)
      exact ⟨c 0, c 1, c 2, c 3, c 4⟩)
    have hqb : q < wb.heap.size := TB.out.lt
    have V := Lib.hid (nea_vis (a := a) (v := wb.heap.size) (kb := kb) (g := g) (B := w.heap.size) (R := w.heap.size) (M := (s : Int) * (s : Int)) (mw := I ((s : Int) * (s : Int))) (b0 := (l, b, r, tp)) 1048576 HX.out HY.out (Int.natCast_mul s s ▸ below_I (s * s) (by have := Nat.mul_le_mul hs1 hs1; omega)) (by have := HS0.out; have := HBS.out; constructor <;> omega) hk1 hk2)
    have KV := Lib.hid (blk_new wb (.cells #[.iface 112 (pt a)] 122))
    have P0 := Lib.hid (show NeaP a wb.heap.size kb g w.heap.size w.heap.size k x y ((s : Int) * (s : Int)) (I ((s : Int) * (s : Int))) (l, b, r, tp) (wb.drew.alloc (.cells #[.iface 112 (pt a)] 122)) [] from
      ⟨[], I ((s : Int) * (s : Int)), (l, b, r, tp), ⟨KV.out, (blk_old KA.out _ : (wb.alloc _).heap[a]? = _), (blk_old KB.out _ : (wb.alloc _).heap[kb]? = _), kept_ext (((Ext.refl wb).drew).alloc _) KG.out, by have := HS0.out; have := HBS.out; simp; omega, Below.refl _ _⟩, ⟨HT.out.bd.1.1, HT.out.bd.2.2.1.1, HT.out.bd.2.1.1, HT.out.bd.2.2.2.1⟩, ⟨Hp.nil, by simp, [], .refl _, .inl ⟨rfl, rfl, by simp, by simp⟩⟩⟩)
    have TV := Lib.hid (TB.out.frame (w' := wb.drew.alloc (.cells #[.iface 112 (pt a)] 122)) fun j hj => heap_alloc_old wb.drew _ hj)
    have HLT := Lib.hid (fun j hj => HT.out.at'.lt j hj)
    clear KA KB KG
    go_region_held3 (fun w' => w'.cell? ⟨q, 0, none⟩ = some (fl l) ∧ w'.cell? ⟨q, 1, none⟩ = some (fl b) ∧ w'.cell? ⟨q, 2, none⟩ = some (fl r) ∧ w'.cell? ⟨q, 3, none⟩ = some (fl tp) ∧ w'.cell? ⟨q, 4, none⟩ = some (pt kn))
      (first | exact HS.out _ rfl | exact HS.out _ (heap_alloc_old _ _ hqb) | exact HS.out _ HQV)
      (first
        | (go_at_call 48
           refine (newvisit_any _ _ _).mono ?_
           rintro e w4 ⟨rfl, rfl⟩)
        | (go_at_call 49
           refine (visit_any V.out (.node kn u c0 c1 c2 c3) l r b tp _ [] (by simp) TV.out.at' HLT.out TV.out.reg TV.out.sm TV.out.bd.1 TV.out.bd.2.1 TV.out.bd.2.2.1 TV.out.bd.2.2.2 P0.out (by simpa using HN.out)).mono ?_
           rintro e w5 ⟨rfl, hP5, hb5⟩
           have HP5 := Lib.hid hP5
           have HB5 := Lib.hid hb5
           have HQV : w5.heap[q]? = wb.heap[q]? := (hb5.block q hq).trans (heap_alloc_old wb.drew _ hqb)
           clear hP5 hb5))
    have B5 := Lib.hid (Below.trans (show Below w.heap.size w _ from (X.out.drew).alloc _) HB5.out)
    obtain ⟨hs, m, bx, hL5, _, hI5⟩ := HP5.out
    have HL5 := Lib.hid (show HL w.heap.size w5 w5 a g (k + 1) hs.length (fl (I x)) (fl (I y)) .nilFunc (.int .i64 (k : Nat)) (pt kb) (fl m) (hcs (dw x y) hs) from ⟨hL5.ha, hL5.own, hag, Mod.of_ext (Ext.refl _)⟩)
    have HI5 := Lib.hid hI5
    have hlk := hI5.len
    clear hL5 hI5 HP5 HQV TV P0 KV V HS TB hqb HB5 X
    have CA := cell_of_blk HL5.out.ha
    by_cases hz : hs.length = 0
    · have hnil : hs = [] := List.eq_nil_of_length_eq_zero hz
      subst hnil
      clear hz hlk
      have HD := Lib.hid (nea_done HI5.out (.refl _) HT.out.reg)
      simp only [List.length_nil] at CA
      go_wp2_with fail
      go_loopg [15] 0 (fun r iv wr => r = 0 ∧ iv = .int .i64 (-1) ∧ wr = w5)
      case atStart => exact ⟨rfl, rfl, rfl⟩
      case round =>
        obtain ⟨-, rfl, rfl⟩ := hrel
        obtain ⟨R, h1, h2, h3, h4⟩ := HD.out
        have FIN := Lib.hid (show NearestSays k x y ((s : Int) * (s : Int)) (.node kn u c0 c1 c2 c3) w (.returned (.slice none 0 0)) wr from ⟨.slice none 0 0, [], R, rfl, World.ownsRow_nil _ _ _ _, h1, .nil, h2, h3, h4, B5.out⟩)
        clear h1 h2 h3 h4 HD
        go_wp2_with fail
        go_ret
        exact FIN.out
    · obtain ⟨n, hn⟩ : ∃ n, n = hs.length := ⟨_, rfl⟩
      have HLN := Lib.hid hn
      rw [← hn] at CA hz hlk
      have dn : decide ((0 : Int) < (n : Int)) = true := by simp; omega
      have dn2 : decide (0 < n) = true := by simp; omega
      have hmk := make_out n (by omega)
      have ha5 := (Array.getElem?_eq_some_iff.1 HL5.out.ha).1
      have hg5 := (own_lt HL5.out.own).2
      have hw5 := B5.out.size
      have HSM := Lib.hid (show ∀ z ∈ hs, Sm z from fun z hz => (HI5.out.lt z hz).2)
      have E0 := Lib.hid (show Emp w (w5.alloc (.cells (madeCells #[.nilIface] n) 77)) a g w5.heap.size (k + 1) n n (fl (I x)) (fl (I y)) .nilFunc (.int .i64 (k : Nat)) (pt kb) (fl m) (dw x y) (dsq x y) hs hs [] from
        ⟨by have h := HL5.out; rw [← hn] at h; exact ⟨blk_old h.ha _, kept_ext ((Ext.refl _).alloc _) h.own, hag, Mod.of_ext (Ext.refl _)⟩,
          ⟨by simp [ivs], .inr ⟨_, n, _, rfl, hw5, blk_new w5 _, Nat.le_refl _, by simp only [maxLen]; omega, by simp [size_madeCells], by rw [toList_madeCells_one]; simp [ivs]⟩⟩,
          HI5.out.hp, .refl _, .nil, by simp, Below.trans B5.out (Below.mono ((Ext.refl w5).alloc _) hw5), hwa, by omega, by omega⟩)
      clear hn
      go_wp2_with fail
      have hb5 : w5.heap.size < (w5.alloc (.cells (madeCells #[.nilIface] n) 77)).heap.size := by simp
      generalize w5.alloc (.cells (madeCells #[.nilIface] n) 77) = w6 at *
      generalize w5.heap.size = bb at *
      clear CA dn dn2 hmk HL5 B5
      go_loopg [15] n (fun r iv wr => ∃ (j : Nat) (H us : List T3), r = j ∧ j ≤ n ∧ iv = .int .i64 ((j : Int) - 1) ∧ Emp w wr a g bb (k + 1) n j (fl (I x)) (fl (I y)) .nilFunc (.int .i64 (k : Nat)) (pt kb) (fl m) (dw x y) (dsq x y) hs H us)
      case atStart => exact ⟨n, hs, [], rfl, Nat.le_refl _, rfl, E0.out⟩
      case round =>
        obtain ⟨j, H, us, hri, hjn, rfl, hE⟩ := hrel
        obtain rfl := hri.symm
        have HE := Lib.hid hE
        clear E0 hE
        rcases j with _ | j
        · have FIN := Lib.hid (show NearestSays k x y ((s : Int) * (s : Int)) (.node kn u c0 c1 c2 c3) w (.returned (.slice (some ⟨bb, 0, none⟩) n n)) wr from by
            have h := HE.out
            have hH : H = [] := List.eq_nil_of_length_eq_zero h.hl.len
            subst hH
            have hp := h.perm
            rw [List.append_nil] at hp
            have hun : us.length = n := by rw [hp.length_eq, HLN.out]
            obtain ⟨R, h1, h2, h3, h4⟩ := nea_done HI5.out hp HT.out.reg
            exact ⟨_, us, R, rfl, by rw [hun]; exact h.own, h1, h.asc, h2, h3, h4, h.ext⟩)
          clear HE
          go_wp2_with fail
          go_ret
          exact FIN.out
        · have hj1 : ((j + 1 : Nat) : Int) - 1 = (j : Int) := by omega
          rw [hj1]
          have hlen := Lib.hid HE.out.hl.len
          obtain ⟨t, ht⟩ : ∃ t, H[0]? = some t := ⟨_, List.getElem?_eq_getElem (by have := hlen.out; omega)⟩
          obtain ⟨e0', _⟩ := HE.out.hl.cells ht
          rw [Nat.zero_mul] at e0'
          have e0 : wr.cell? ⟨g, 0, none⟩ = some (.iface 25 (.agg #[.int .i64 t.1, .int .i64 t.2.1, .int .i64 t.2.2])) := e0'
          have HTT := Lib.hid ht
          have CA := cell_of_blk HE.out.hl.ha
          have FB := HE.out.own.frozenAt
          have hjn' : j < n := hjn
          have hab := HE.out.ab
          obtain ⟨z, e1⟩ : ∃ z, wr.cell? ⟨bb, j, none⟩ = some z := ⟨_, by rw [HE.out.own.cellAt j (by omega)]; exact List.getElem?_eq_getElem (by rw [HE.out.own.1]; omega)⟩
          have HSM2 := Lib.hid (show ∀ z ∈ H, Sm z from fun z hz => HSM.out z (HE.out.perm.mem_iff.1 (List.mem_append.2 (.inr hz))))
          have E2 := Lib.hid (show HL w.heap.size (wr.setCell ⟨bb, j, none⟩ (iv (some t))) (wr.setCell ⟨bb, j, none⟩ (iv (some t))) a g (k + 1) (j + 1) (fl (I x)) (fl (I y)) .nilFunc (.int .i64 (k : Nat)) (pt kb) (fl m) (hcs (dw x y) H) from
            ⟨(blk_setCell_ne HE.out.ab _ _).trans HE.out.hl.ha, own_keep HE.out.hl.own (blk_setCell_ne HE.out.gb _ _), hag, Mod.of_ext (Ext.refl _)⟩)
          have O2 := Lib.hid (show (wr.setCell ⟨bb, j, none⟩ (iv (some t))).ownsRow w.heap.size 77 1 (.slice (some ⟨bb, 0, none⟩) n n) n (List.replicate j .nilIface ++ ivs (t :: us)) from by
            have := own_set HE.out.own j (iv (some t)) (by omega)
            rwa [rep_set] at this)
          have X2 := Lib.hid (show Ext w (wr.setCell ⟨bb, j, none⟩ (iv (some t))) from HE.out.ext.setCell (own_lt HE.out.own).1 _)
          obtain ⟨H0, z0, hHl⟩ : ∃ H0 z0, H = H0 ++ [z0] := ⟨H.dropLast, H.getLast (by intro e; rw [e] at hlen; have := hlen.out; simp at this), (List.dropLast_concat_getLast _).symm⟩
          have hpop := pop_any (kw := dw x y) (d := dsq x y) (R := w.heap.size) (n := j) (by have := E2.out; rw [hHl] at this; exact this) (by omega) (by rw [← hHl]; exact HSM2.out) (by rw [← hHl]; exact HE.out.hp) (by rw [← hHl]; exact ht) (key_dsq HX.out HY.out)
          rw [← hHl] at hpop
          have HPOP := Lib.hid hpop
          clear hpop ht hHl e0' hlen
          go_wp2_with fail
          refine HPOP.out.mono ?_
          rintro e w7 ⟨rfl, H', hl7, hperm7, hHp7⟩
          have E7 := Lib.hid (show Emp w w7 a g bb (k + 1) n j (fl (I x)) (fl (I y)) .nilFunc (.int .i64 (k : Nat)) (pt kb) (fl m) (dw x y) (dsq x y) hs H' (t :: us) from
            ⟨⟨hl7.ha, hl7.own, hag, Mod.of_ext (Ext.refl _)⟩,
              own_keep O2.out (hl7.mod.block bb (own_lt O2.out).2 (by simp only [List.mem_cons, List.not_mem_nil, or_false, not_or]; exact ⟨Ne.symm HE.out.ab, Ne.symm HE.out.gb⟩)),
              hHp7,
              by
                have h1 : ((t :: us) ++ H').Perm (us ++ (t :: H')) := List.perm_middle.symm
                exact h1.trans ((hperm7.append_left us).trans HE.out.perm),
              List.pairwise_cons.2 ⟨fun u hu => HE.out.le t (List.mem_of_getElem? HTT.out) u hu, HE.out.asc⟩,
              fun h hh u hu => by
                have hm : h ∈ H := hperm7.mem_iff.1 (List.mem_cons_of_mem _ hh)
                rcases List.mem_cons.1 hu with rfl | hu
                · exact HE.out.hp.top_mem HTT.out h hm
                · exact HE.out.le h hm u hu,
              Below.trans X2.out (hl7.mod.below X2.out.size (fun i hi => by
                simp only [List.mem_cons, List.not_mem_nil, or_false] at hi
                rcases hi with rfl | rfl
                · exact hwa
                · exact hgW)), hwa, HE.out.ab, HE.out.gb⟩)
          clear HPOP hl7 hperm7 hHp7 HE E2 O2 X2 CA FB e0 e1
          go_wp2_with fail
          go_roundg j
          case measure => omega
          case rel => exact ⟨j, H', t :: us, rfl, by omega, rfl, E7.out⟩

end Go.Proofs.YtmmmknmncdlopaaDoor
