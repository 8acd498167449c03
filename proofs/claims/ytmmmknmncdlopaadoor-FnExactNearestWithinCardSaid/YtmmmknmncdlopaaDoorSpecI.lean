/- spec.Among: items that are among others. Conditions: no more than 65536 items. -/
import Derived.Test.YtmmmknmncdlopaaDoorSpecH
namespace Go.Proofs.YtmmmknmncdlopaaDoor
open Go.ChangeShapes Go.WideShapes Go.ChangeAt Go.RowKit
open Go.Proofs.YtmmmknmncdlopaaDoor.F

/-- What is left of a list behind i items. -/
structure AI (W wr : World) (us R L : List T3) (i g n cap : Nat) : Prop where
  own : wr.ownsRow W.heap.size 25 3 (.slice (some ⟨g, 0, none⟩) n cap) n (cells3 L)
  len : L.length = n
  perm : (us.drop i ++ R).Perm L
  ext : Ext W wr
theorem AI.ext' {W wr w2 : World} {us R L : List T3} {i g n cap : Nat} (h : AI W wr us R L i g n cap) (hx : Ext wr w2) : AI W w2 us R L i g n cap := ⟨kept_ext hx h.own, h.len, h.perm, h.ext.trans hx⟩
/-- Behind the item that is taken out. -/
theorem AI.found {W wr w3 w4 : World} {us R L V : List T3} {x : T3} {i j g n cap g4 N cap4 : Nat} (h : AI W wr us R L i g n cap) (hx : Ext wr w3) (hown : w4.ownsRow W.heap.size 25 3 (.slice (some ⟨g4, 0, none⟩) N cap4) N (cells3 (L.take j ++ V))) (hg : w3.grownBy w4 (some g))
    (hj : L[j]? = some x) (hnx : x ∉ L.take j) (hp : V = L.drop (j + 1) ∧ us[i]? = some x ∧ N + 1 = n) : AI W w4 us R (L.take j ++ V) (i + 1) g4 N cap4 := by
  obtain ⟨rfl, hu, hN⟩ := hp
  have hjl := (List.getElem?_eq_some_iff.1 hj).1
  have hlen := h.len
  refine ⟨hown, ?_, ?_, Below.grown (h.ext.trans hx) hg (h.ext.trans hx).size (fun k hk => by injection hk with hk; rw [← hk]; exact (own_lt h.own).1)⟩
  · rw [List.length_append, List.length_take, List.length_drop]; omega
  · have h1 := h.perm
    have hul := (List.getElem?_eq_some_iff.1 hu).1
    rw [List.drop_eq_getElem_cons hul, (List.getElem?_eq_some_iff.1 hu).2] at h1
    rw [← erase_at hj hnx]
    exact List.Perm.cons_inv (h1.trans (List.perm_cons_erase (List.mem_of_getElem? hj)))

set_option maxRecDepth 8000 in
set_option maxHeartbeats 6400000 in
theorem among_any (us vs R : List T3) (b1 g1 c1 b2 g2 c2 : Nat) (w : World) (h1 : OwnI w b1 g1 c1 us) (h2 : OwnI w b2 g2 c2 vs) (hl : vs.length ≤ 65536) (hp : (us ++ R).Perm vs) :
    Calls Tryd.prog 19 #[.slice (some ⟨g1, 0, none⟩) us.length c1, .slice (some ⟨g2, 0, none⟩) vs.length c2] w fun e w' => e = .returned (.bool true) ∧ Ext w w' := by
  have HLEN := Lib.hid hp.length_eq
  have H1 := Lib.hid h1; have H2 := Lib.hid h2; have HP := Lib.hid hp
  have hul : us.length ≤ 65536 := by have := HLEN.out; rw [List.length_append] at this; omega
  have hg1 := (own_lt h1).2
  clear h1 h2 hp
  go_enter Tryd.func19, Tryd.ntmps19
  have N0 := Lib.hid (ownI_nil w)
  go_wp2_with (at_builtin; refine wpList_join rfl (.tmp 10) (.tmp 11) rfl w.heap.size w.heap.size 0 0 [] rfl N0.out ⟨g2, 0, none⟩ vs.length c2 vs rfl rfl (own_part (kept_ext ((Ext.refl w).alloc _) H2.out) vs (i := 0) (fun k t h => by rw [Nat.zero_add]; exact h) 0 rfl) vs.length (by omega) (by omega) (by simp) (w.heap.size + 1) (by simp) ?_)
  intro g c w1 hown hgrow hat
  have X1 := Lib.hid (show Ext w w1 from Below.grown ((Ext.refl w).alloc _) hgrow (by simp) (fun k hk => by injection hk with hk; rw [← hk]; exact Nat.le_refl _))
  have A0 := Lib.hid (show AI w w1 us R vs 0 g vs.length c from ⟨hown, rfl, by rw [List.drop_zero]; exact HP.out, X1.out⟩)
  clear hown hgrow hat
  go_wp2_with fail
  go_loopg [5, 15] us.length (fun r lv iv wr => ∃ (i g n cap : Nat) (L : List T3), r + i = us.length ∧ iv = .int .i64 (i : Nat) ∧ lv = .slice (some ⟨g, 0, none⟩) n cap ∧ n ≤ 65536 ∧ AI w wr us R L i g n cap)
  case atStart => exact ⟨0, g, _, c, vs, by omega, rfl, rfl, hl, A0.out⟩
  case round =>
    obtain ⟨gR, rfl⟩ : ∃ gR : Nat, gR = gk := ⟨_, rfl⟩
    obtain ⟨wo, rfl⟩ : ∃ wo : World, wo = wr := ⟨_, rfl⟩
    obtain ⟨i, g, n, cap, L, hR, rfl, rfl, hn, hA⟩ := hrel
    have HA := Lib.hid hA; clear hA A0
    by_cases hlt : i < us.length
    · obtain ⟨x, hxu⟩ : ∃ x, us[i]? = some x := ⟨_, List.getElem?_eq_getElem hlt⟩
      obtain ⟨d0, d1, d2⟩ := ownI_cells (kept_ext HA.out.ext H1.out) hxu
      have HXU := Lib.hid hxu
      have hgw : g1 < wo.heap.size := Nat.lt_of_lt_of_le hg1 HA.out.ext.size
      have BB := Lib.hid (blk_new wo (.cells #[.int .i64 x.1, .int .i64 x.2.1, .int .i64 x.2.2] 25))
      have XB := Lib.hid ((Ext.refl wo).alloc (.cells #[.int .i64 x.1, .int .i64 x.2.1, .int .i64 x.2.2] 25))
      have eqx := fun a b c => eq_item a b c x.1 x.2.1 x.2.2
      have HIN := Lib.hid (show x ∈ L from HA.out.perm.mem_iff.1 (List.mem_append.2 (.inl (by rw [List.drop_eq_getElem_cons hlt, (List.getElem?_eq_some_iff.1 hxu).2]; exact List.mem_cons_self ..))))
      clear hxu
      go_wp2_with fail
      generalize wo.alloc (.cells #[.int .i64 x.1, .int .i64 x.2.1, .int .i64 x.2.2] 25) = wb at *
      go_loopg [5, 8, 9] n (fun r lv bv jv wr => ∃ (j : Nat), jv = .int .i64 (j : Nat) ∧ ((r = n - j ∧ j ≤ n ∧ lv = .slice (some ⟨g, 0, none⟩) n cap ∧ bv = .bool false ∧ x ∉ L.take j ∧ Ext wb wr) ∨ ∃ g3 n3 cap3 L3, j ≤ n ∧ n3 ≤ 65536 ∧ lv = .slice (some ⟨g3, 0, none⟩) n3 cap3 ∧ bv = .bool true ∧ AI w wr us R L3 (i + 1) g3 n3 cap3))
      case atStart => exact ⟨0, rfl, .inl ⟨rfl, by omega, rfl, rfl, by simp, Ext.refl _⟩⟩
      case round =>
        obtain ⟨gq, rfl⟩ : ∃ gq : Nat, gq = gk := ⟨_, rfl⟩
        obtain ⟨j, rfl, h⟩ := hrel
        rcases h with ⟨rfl, hjn, rfl, rfl, hnx, hxq⟩ | ⟨g3, n3, cap3, L3, hjn, hn3, rfl, rfl, hA3⟩
        · have XQ := Lib.hid hxq
          have BQ := Lib.hid (Ext.blk hxq BB.out)
          have HNX := Lib.hid hnx
          have hj : j < n := by
            rcases Nat.lt_or_ge j n with h | h
            · exact h
            · exact absurd HIN.out (by rwa [List.take_of_length_le (by rw [HA.out.len]; exact h)] at hnx)
          clear hxq hnx
          obtain ⟨y, hy⟩ : ∃ y, L[j]? = some y := ⟨_, List.getElem?_eq_getElem (by rw [HA.out.len]; exact hj)⟩
          have HY := Lib.hid hy
          have OW := Lib.hid (kept_ext (XB.out.trans XQ.out) HA.out.own)
          obtain ⟨e0, e1, e2⟩ := ownN_cells OW.out hy
          have L1 := fun e : Later wr => e.h.cell e0
          have L2 := fun e : Later wr => e.h.cell e1
          have L3 := fun e : Later wr => e.h.cell e2
          have L4 := fun e : Later wr => cell_of_blk (Ext.blk e.h BQ.out)
          have dj : decide ((j : Int) < n) = true := by simp; omega
          have hg2 := (own_lt OW.out).2
          have hwq : wo.heap.size < wr.heap.size := (Array.getElem?_eq_some_iff.1 BQ.out).1
          clear hy e0 e1 e2
          by_cases hyx : y = x
          · have eqy : ∀ W, (Op.equalIn 10000 25 (.agg #[.int .i64 y.1, .int .i64 y.2.1, .int .i64 y.2.2]) (.agg #[.int .i64 x.1, .int .i64 x.2.1, .int .i64 x.2.2])).run Tryd.prog W = .ok true W := fun W => by rw [eqx, hyx]; simp
            obtain rfl := hyx
            clear eqx
            go_wp2_with fail
            refine region_ext (by kernel_rfl) (by kernel_rfl) (fun hc => ?_)
            repeat (go_big_quiet_step (fail))
            refine wpQuiet_nil ?_
            rintro w3 ⟨⟨_, hw3⟩, rfl⟩
            have X3 := Lib.hid hw3
            clear L1 L2 L3 L4 hc hw3 eqy dj
            go_wp2_with fail
            have O3 := Lib.hid (kept_ext X3.out OW.out)
            have hcap := own_cap2 O3.out
            have hb3 : w.heap.size ≤ w3.heap.size := (HA.out.ext.trans (XB.out.trans (XQ.out.trans X3.out))).size
            have HB3 := Lib.hid hb3
            clear hb3
            have hjc : j ≤ cap := by omega
            have hjc1 : j + 1 ≤ cap := by omega
            have hjn1 : j + 1 ≤ n := by omega
            have hwp : IntKind.i64.wrap ((j : Int) + 1) = (j : Int) + 1 := IntWalk.i64_in _ (by omega)
            have hi0 : (0 : Int) ≤ (j : Int) + 1 := by omega
            have hi1 : (j : Int) + 1 ≤ (n : Int) := by omega
            have hi2 : ((j : Int) + 1).toNat = j + 1 := by omega
            have hi3 : (j : Int) ≤ (j : Int) + 1 := by omega
            by_cases hce : cap = j + 1
            · subst hce
              obtain rfl : n = j + 1 := by omega
              go_region_law (first
                | (refine step_join rfl (.tmp 37) (.tmp 41) rfl w.heap.size g j (j + 1) (L.take j) (by simp [Act.eval, Act.put]) (own_take O3.out (by omega)) ⟨g, 0, none⟩ 0 0 ([] : List T3) (by simp [Act.eval, Act.put]) rfl (fun j u h => by simp [cells3] at h) j (by omega) (by omega) HB3.out w3.heap.size rfl ?_
                   intro g4 cap4 w4 hown4 hgrow4 hat4
                   have A4 := Lib.hid (AI.found HA.out (XB.out.trans (XQ.out.trans X3.out)) hown4 ⟨hgrow4.os, hgrow4.tape, hgrow4.output, hgrow4.size, hgrow4.block⟩ HY.out HNX.out ⟨by rw [List.drop_of_length_le (by rw [HA.out.len]; exact Nat.le_refl _)], HXU.out, rfl⟩)
                   clear hown4 hgrow4 hat4))
              all_goals
                go_wp2
                go_roundg 0
                case measure => omega
                case rel => exact ⟨j + 1, by go_num, .inr ⟨g4, j, cap4, _, by omega, by omega, rfl, rfl, A4.out⟩⟩
            · skip
              go_region_law (first
                | (refine step_join rfl (.tmp 37) (.tmp 41) rfl w.heap.size g j cap (L.take j) (by simp [Act.eval, Act.put]) (own_take O3.out (by omega)) ⟨g, (j + 1) * 3, none⟩ (n - (j + 1)) (cap - (j + 1)) (L.drop (j + 1)) (by simp [Act.eval, Act.put]) (by rw [List.length_drop, HA.out.len]) (own_part O3.out _ (i := j + 1) (fun k t h => by rw [List.getElem?_drop] at h; exact h) _ rfl) (n - 1) (by omega) (by omega) HB3.out w3.heap.size rfl ?_
                   intro g4 cap4 w4 hown4 hgrow4 hat4
                   have A4 := Lib.hid (AI.found HA.out (XB.out.trans (XQ.out.trans X3.out)) hown4 ⟨hgrow4.os, hgrow4.tape, hgrow4.output, hgrow4.size, hgrow4.block⟩ HY.out HNX.out ⟨rfl, HXU.out, by omega⟩)
                   clear hown4 hgrow4 hat4))
              all_goals
                go_wp2
                go_roundg 0
                case measure => omega
                case rel => exact ⟨j + 1, by go_num, .inr ⟨g4, (n - 1), cap4, _, by omega, by omega, rfl, rfl, A4.out⟩⟩
          · have eqy : ∀ W, (Op.equalIn 10000 25 (.agg #[.int .i64 y.1, .int .i64 y.2.1, .int .i64 y.2.2]) (.agg #[.int .i64 x.1, .int .i64 x.2.1, .int .i64 x.2.2])).run Tryd.prog W = .ok false W := fun W => by
              rw [eqx]
              have : (y.1 == x.1 && (y.2.1 == x.2.1 && y.2.2 == x.2.2)) = false := by
                rw [← Bool.not_eq_true]
                simp only [Bool.and_eq_true, beq_iff_eq]
                rintro ⟨h1, h2, h3⟩
                exact hyx (Prod.ext h1 (Prod.ext h2 h3))
              rw [this]
            have HYX := Lib.hid hyx
            clear hyx eqx
            go_wp2_with fail
            refine region_ext (by kernel_rfl) (by kernel_rfl) (fun hc => ?_)
            repeat (go_big_quiet_step (fail))
            refine wpQuiet_nil ?_
            rintro w3 ⟨⟨_, hw3⟩, rfl⟩
            have X3 := Lib.hid hw3
            clear L1 L2 L3 L4 hc hw3 eqy dj
            go_wp2
            go_roundg (n - (j + 1))
            case measure => omega
            case rel =>
              refine ⟨j + 1, by go_num, .inl ⟨rfl, by omega, rfl, rfl, ?_, XQ.out.trans X3.out⟩⟩
              rw [List.take_add_one, HY.out]
              simp only [Option.toList_some, List.mem_append, List.mem_singleton, not_or]
              exact ⟨HNX.out, fun e => HYX.out e.symm⟩
        · have A3 := Lib.hid hA3
          clear hA3 eqx
          by_cases hd : j < n3
          · have dj : decide ((j : Int) < n3) = true := by simp; omega
            go_wp2
            go_roundg (gR - 1)
            case measure => omega
            case rel => exact ⟨i + 1, g3, n3, cap3, L3, by omega, by go_num, rfl, hn3, A3.out⟩
          · have dj : decide ((j : Int) < n3) = false := by simp; omega
            go_wp2
            go_roundg (gR - 1)
            case measure => omega
            case rel => exact ⟨i + 1, g3, n3, cap3, L3, by omega, by go_num, rfl, hn3, A3.out⟩
    · have FIN := Lib.hid HA.out.ext
      go_wp2
      exact bodyPost_ret (v := .bool true) (by simp [results, Tryd.results19, go_sem]) rfl ⟨rfl, FIN.out⟩

end Go.Proofs.YtmmmknmncdlopaaDoor
