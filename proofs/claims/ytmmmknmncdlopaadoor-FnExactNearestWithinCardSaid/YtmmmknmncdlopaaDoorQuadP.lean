/- (*Quadtree).Remove, with a filter. Condition: the filter takes just the item itself. -/
import Derived.Test.YtmmmknmncdlopaaDoorQuadO
namespace Go.Proofs.YtmmmknmncdlopaaDoor
open Go.ChangeShapes Go.WideShapes Go.ChangeAt Go.RowKit
open Go.Proofs.YtmmmknmncdlopaaDoor.F

/-- What Remove leaves. -/
def GoneSays (B q l b r tp : Nat) (t : Tr) (x : T3) (w : World) (e : Ending) (w' : World) : Prop :=
  ((x ∈ its t ∧ e = .returned (.bool true) ∧ ∃ t', Tree w' B q l b r tp t' ∧ t' ≠ .nil ∧ (x :: its t').Perm (its t) ∧ ∀ k ∈ bks t', k ∈ bks t ∨ w.heap.size ≤ k) ∨ (x ∉ its t ∧ e = .returned (.bool false) ∧ Tree w' B q l b r tp t)) ∧ Mod (q :: bks t) w w'

/-- A node of a tree without its item, and what removeNode leaves of it. -/
theorem Tree.gone {w w1 w2 : World} {B q l b r tp : Nat} {t : Tr} {n : Nat × T3} {d0 d1 d2 d3 : Tr} {l' r' b' tp' : Nat} {e : Ending} (T : Tree w B q l b r tp t) (hne : t ≠ .nil) (hn : n ∈ nds t)
    (hrep : ∀ (s' : Tr) (w' : World), ptr s' = pt n.1 → At w' s' → (bks s').Nodup → (∀ j ∈ bks s', j ∈ bks (.node n.1 (some n.2) d0 d1 d2 d3)) → Reg s' l' r' b' tp' → (∀ y ∈ its s', y ∈ its (.node n.1 (some n.2) d0 d1 d2 d3)) →
        (∀ j ∈ bks t, j ∉ bks (.node n.1 (some n.2) d0 d1 d2 d3) → w'.heap[j]? = w.heap[j]?) →
        ∃ t', ptr t' = ptr t ∧ At w' t' ∧ (bks t').Nodup ∧ (∀ j ∈ bks t', j ∈ bks t) ∧ Reg t' l r b tp ∧ (∀ y ∈ its t', y ∈ its t) ∧ (its (.node n.1 (some n.2) d0 d1 d2 d3) ++ its t').Perm (its s' ++ its t))
    (hat : At w1 (.node n.1 none d0 d1 d2 d3)) (nd : (bks (.node n.1 (some n.2) d0 d1 d2 d3)).Nodup) (hsub : ∀ j ∈ bks (.node n.1 (some n.2) d0 d1 d2 d3), j ∈ bks t) (hreg : Reg (.node n.1 none d0 d1 d2 d3) l' r' b' tp')
    (hm : Mod [n.1] w w1) (hr : RemSays (.node n.1 none d0 d1 d2 d3) l' r' b' tp' w1 e w2) :
    (∃ v, e = .returned (.bool v)) ∧ (∃ t', Tree w2 B q l b r tp t' ∧ t' ≠ .nil ∧ (n.2 :: its t').Perm (its t) ∧ ∀ k ∈ bks t', k ∈ bks t) ∧ Mod (bks t) w w2 := by
  have key : ∀ s' : Tr, ptr s' = pt n.1 → At w2 s' → (bks s').Nodup → (∀ j ∈ bks s', j ∈ bks (.node n.1 (some n.2) d0 d1 d2 d3)) → Reg s' l' r' b' tp' → (its s').Perm (its (.node n.1 none d0 d1 d2 d3)) → Mod (bks (.node n.1 (some n.2) d0 d1 d2 d3)) w w2 →
      (∃ t', Tree w2 B q l b r tp t' ∧ t' ≠ .nil ∧ (n.2 :: its t').Perm (its t) ∧ ∀ k ∈ bks t', k ∈ bks t) ∧ Mod (bks t) w w2 := fun s' h1 h2 h3 h4 h5 h6 h7 => by
    have hi : ∀ y ∈ its s', y ∈ its (.node n.1 (some n.2) d0 d1 d2 d3) := fun y hy => by
      have := h6.mem_iff.1 hy
      rw [its_node] at this ⊢
      simpa using .inr (by simpa using this)
    obtain ⟨t', e1, e2, e3, e4, e5, e6, e7⟩ := hrep s' w2 h1 h2 h3 h4 h5 hi fun j hj hs => h7.block j (T.at'.lt j hj) hs
    refine ⟨⟨t', T.put ?_ e2 e3 (fun k hk => .inl (e4 k hk)) e5 (fun y hy => T.sm y (e6 y hy)), fun h => ?_, ?_, e4⟩, h7.mono hsub⟩
    · rw [h7.block q T.lt (fun hm => T.nq (hsub q hm)), e1]; exact T.hq
    · rw [h] at e1
      cases t with
      | nil => exact hne rfl
      | node => cases e1
    · rw [its_node] at e7
      have h8 := h6
      rw [its_node] at h8
      rw [List.perm_iff_count] at e7 h8 ⊢
      intro z
      have h7 := e7 z
      have h9 := h8 z
      simp only [List.count_append, List.count_cons, Option.toList_some, Option.toList_none, List.count_nil] at h7 h9 ⊢
      omega
  have hm' : Mod (bks (.node n.1 (some n.2) d0 d1 d2 d3)) w w1 := hm.mono (by simp [bks])
  rcases hr with ⟨rfl, _, rfl⟩ | ⟨rfl, s', h1, h2, h3, h4, h5, h6, h7⟩
  · exact ⟨⟨_, rfl⟩, key (.node n.1 none d0 d1 d2 d3) rfl hat nd (fun j hj => hj) hreg (.refl _) hm'⟩
  · exact ⟨⟨_, rfl⟩, key s' h1 h2 h3 h4 h5 h6 (hm'.trans h7)⟩

theorem fe_run (F : Nat) (cap : Array Value) : ∀ W, (binOp .eql 92 (.func (.func F) #[] cap) .nilFunc).run Tryd.prog W = .ok (.bool false) W := fun _ => by kernel_rfl

theorem At.clear {w : World} {k : Nat} {v : Option T3} {c0 c1 c2 c3 : Tr} (h : At w (.node k v c0 c1 c2 c3)) (nd : (bks (.node k v c0 c1 c2 c3)).Nodup) (u : Option T3) : At (w.setCell ⟨k, 0, none⟩ (iv u)) (.node k u c0 c1 c2 c3) := by
  have hkn : ∀ d : Tr, (d = c0 ∨ d = c1 ∨ d = c2 ∨ d = c3) → k ∉ bks d := fun d hd => by
    have := nd
    simp only [bks, List.nodup_cons, List.mem_append] at this
    rcases hd with rfl | rfl | rfl | rfl <;> grind
  have keep : ∀ d : Tr, At w d → k ∉ bks d → At (w.setCell ⟨k, 0, none⟩ (iv u)) d := fun d hd hm => hd.frame fun j hj => blk_setCell_ne (b := k) (fun e => hm (e ▸ hj)) _ _
  obtain ⟨h0, h1, h2, h3, h4⟩ := h
  exact ⟨(blk_setCell h0 0 _).trans rfl, keep c0 h1 (hkn _ (by simp)), keep c1 h2 (hkn _ (by simp)), keep c2 h3 (hkn _ (by simp)), keep c3 h4 (hkn _ (by simp))⟩

set_option maxRecDepth 8000 in
set_option maxHeartbeats 6400000 in
theorem remove_top {B q l b r tp : Nat} {t : Tr} {x : T3} {w : World} {F : Nat} {cc : Value} {f : T3 → Bool} {Q : World → Prop} (hx : Sm x) (T : Tree w B q l b r tp t) (hne : t ≠ .nil) (hN : (nds t).length ≤ 1048576) (hF : Fil (.func (.func F) #[] #[cc]) f Q) (hf : ∀ y, f y = true ↔ y = x) (hQ : Q w) (hQk : ∀ w1 w2, Q w1 → Below w.heap.size w1 w2 → Q w2) :
    Calls Tryd.prog 43 #[pt q, iv (some x), .func (.func F) #[] #[cc]] w (GoneSays B q l b r tp t x w) := by
  have HT := Lib.hid T; have HX := Lib.hid hx; have HF := Lib.hid hF; have HFX := Lib.hid hf; have HQ := Lib.hid hQ; have HQK := Lib.hid hQk; have HNE := Lib.hid hne; have HN := Lib.hid hN
  clear T hx hF hf hQ hQk hne hN
  have i1 := item_n x; have i2 := item_m x
  change Calls _ _ #[pt q, .iface 25 (.agg #[.int .i64 x.1, .int .i64 x.2.1, .int .i64 x.2.2]), .func (.func F) #[] #[cc]] _ _
  have CQ := cell_of_blk HT.out.hq
  have hq : q < w.heap.size := HT.out.lt
  have st := st_fl
  have fe := fe_run F #[cc]
  go_enter Tryd.func43, Tryd.ntmps43
  go_wp2_with fail
  have KB := blk_new w (.cells #[fl l, fl b, fl r, fl tp] 67)
  have KX := (Ext.refl w).alloc (.cells #[fl l, fl b, fl r, fl tp] 67)
  refine (point_any _ _ _ _).mono ?_
  rintro e w2 ⟨rfl, hx2⟩
  have X2 := Lib.hid (KX.trans hx2)
  have KB2 := Lib.hid (Ext.blk hx2 KB)
  clear hx2 KB KX CQ
  have hq2 : q < w2.heap.size := Nat.lt_of_lt_of_le hq X2.out.size
  go_wp2_with fail
  have X := Lib.hid (X2.out.alloc (.cells #[fl (I x.1), fl (I x.2.1), .func (.func F) #[] #[cc], .pointer none, pt w.heap.size, fl 9218868437227405311] 99))
  have KB := Lib.hid (blk_old KB2.out (.cells #[fl (I x.1), fl (I x.2.1), .func (.func F) #[] #[cc], .pointer none, pt w.heap.size, fl 9218868437227405311] 99))
  have KA := Lib.hid (blk_new w2 (.cells #[fl (I x.1), fl (I x.2.1), .func (.func F) #[] #[cc], .pointer none, pt w.heap.size, fl 9218868437227405311] 99))
  have HSZ : (w2.alloc (.cells #[fl (I x.1), fl (I x.2.1), .func (.func F) #[] #[cc], .pointer none, pt w.heap.size, fl 9218868437227405311] 99)).heap.size = w2.heap.size + 1 := by simp
  have hw2 : w.heap.size < w2.heap.size := (Array.getElem?_eq_some_iff.1 KB2.out).1
  generalize (w2.alloc (.cells #[fl (I x.1), fl (I x.2.1), .func (.func F) #[] #[cc], .pointer none, pt w.heap.size, fl 9218868437227405311] 99)) = wb at *
  obtain ⟨k, u, c0, c1, c2, c3, rfl⟩ : ∃ k u c0 c1 c2 c3, t = .node k u c0 c1 c2 c3 := by
    cases t with
    | nil => exact absurd rfl HNE.out
    | node k u c0 c1 c2 c3 => exact ⟨k, u, c0, c1, c2, c3, rfl⟩
  have TB := Lib.hid (HT.out.ext X.out)
  have HS := Lib.hid (show ∀ w' : World, w'.heap[q]? = wb.heap[q]? → (w'.cell? ⟨q, 0, none⟩ = some (fl l) ∧ w'.cell? ⟨q, 1, none⟩ = some (fl b) ∧ w'.cell? ⟨q, 2, none⟩ = some (fl r) ∧ w'.cell? ⟨q, 3, none⟩ = some (fl tp) ∧ w'.cell? ⟨q, 4, none⟩ = some (pt k)) from fun w' h => by
    have c := cell_of_blk (h.trans TB.out.hq)
    exact ⟨c 0, c 1, c 2, c 3, c 4⟩)
  have hqb : q < wb.heap.size := TB.out.lt
  have HSZ2 := Lib.hid HSZ; have HW2 := Lib.hid hw2
  have V := Lib.hid (fin_vis (a := w2.heap.size) (v := wb.heap.size) (kb := w.heap.size) (B := w.heap.size) (b0 := (l, b, r, tp)) 1048576 (x := x.1) (y := x.2.1) (by have := HX.out.1; omega) (by have := HX.out.2; omega) HF.out HQK.out ⟨by omega, by omega, by omega, by omega, by omega⟩)
  have KV := Lib.hid (blk_new wb (.cells #[.iface 96 (pt w2.heap.size)] 122))
  have P0 := Lib.hid (show ∃ c m bx, FinP w2.heap.size wb.heap.size w.heap.size w.heap.size x.1 x.2.1 (.func (.func F) #[] #[cc]) f Q (l, b, r, tp) (wb.drew.alloc (.cells #[.iface 96 (pt w2.heap.size)] 122)) [] c m bx from
    ⟨none, maxF, (l, b, r, tp), KV.out, (blk_old KA.out _ : (wb.alloc _).heap[w2.heap.size]? = _), (blk_old KB.out _ : (wb.alloc _).heap[w.heap.size]? = _), HQK.out _ _ HQ.out ((X.out.drew).alloc _), by simp; omega, ⟨HT.out.bd.1.1, HT.out.bd.2.2.1.1, HT.out.bd.2.1.1, HT.out.bd.2.2.2.1⟩, rfl, rfl, fun _ h => by cases h⟩)
  have TV := Lib.hid (TB.out.frame (w' := wb.drew.alloc (.cells #[.iface 96 (pt w2.heap.size)] 122)) fun j hj => heap_alloc_old wb.drew _ hj)
  have HLT := Lib.hid (fun j hj => HT.out.at'.lt j hj)
  clear KA KB HSZ hw2 KB2 X2 i1 i2 hq2 fe
  go_region_held3 (fun w' => w'.cell? ⟨q, 0, none⟩ = some (fl l) ∧ w'.cell? ⟨q, 1, none⟩ = some (fl b) ∧ w'.cell? ⟨q, 2, none⟩ = some (fl r) ∧ w'.cell? ⟨q, 3, none⟩ = some (fl tp) ∧ w'.cell? ⟨q, 4, none⟩ = some (pt k))
    (first | exact HS.out _ rfl | exact HS.out _ (heap_alloc_old _ _ hqb) | exact HS.out _ HQV)
    (first
      | (go_at_call 48
         refine (newvisit_any _ _ _).mono ?_
         rintro e w4 ⟨rfl, rfl⟩)
      | (go_at_call 49
         refine (visit_any V.out (.node k u c0 c1 c2 c3) l r b tp _ [] (by simp) TV.out.at' HLT.out TV.out.reg TV.out.sm TV.out.bd.1 TV.out.bd.2.1 TV.out.bd.2.2.1 TV.out.bd.2.2.2 P0.out (by simpa using HN.out)).mono ?_
         rintro e w5 ⟨rfl, hP5, hb5⟩
         have HP5 := Lib.hid hP5
         have HB5 := Lib.hid hb5
         have HQV : w5.heap[q]? = wb.heap[q]? := (hb5.block q hq).trans (heap_alloc_old wb.drew _ hqb)
         clear hP5 hb5))
  have B5 := Lib.hid (Below.trans (show Below w.heap.size w _ from (X.out.drew).alloc _) HB5.out)
  obtain ⟨c, m, bx, hp⟩ := HP5.out
  have T5 := Lib.hid (HT.out.frame fun j hj => B5.out.block j hj)
  clear HP5 HQV st TV P0 KV V HS TB hqb
  rcases c with _ | n
  · have CA := cell_of_blk (show w5.heap[w2.heap.size]? = some (.cells #[fl (I x.1), fl (I x.2.1), .func (.func F) #[] #[cc], .pointer none, pt w.heap.size, fl m] 99 (0, 0)) from hp.ha)
    have FIN := Lib.hid (show GoneSays B q l b r tp (.node k u c0 c1 c2 c3) x w (.returned (.bool false)) w5 from by
      refine ⟨.inr ⟨fun hm => ?_, rfl, T5.out⟩, Mod.of_ext B5.out⟩
      obtain ⟨p, hp1, rfl⟩ := List.mem_map.1 hm
      have h1 := hp.inv.2.2 p (List.mem_append.2 (.inl hp1)) ((HFX.out _).2 rfl)
      have h2 := inr_iff.2 (reg_its HT.out.reg p.2 hm)
      rw [outB_of h1] at h2; cases h2)
    clear hp
    go_wp2_with fail
    go_ret
    exact FIN.out
  · have CA := cell_of_blk (show w5.heap[w2.heap.size]? = some (.cells #[fl (I x.1), fl (I x.2.1), .func (.func F) #[] #[cc], pt n.1, pt w.heap.size, fl m] 99 (0, 0)) from hp.ha)
    have hn : n ∈ nds (.node k u c0 c1 c2 c3) := by have := hp.inv.1; rwa [List.append_nil] at this
    have hx : n.2 = x := (HFX.out _).1 hp.inv.2.1
    obtain ⟨d0, d1, d2, d3, l', r', b', tp', g1, g2, g3, g4, g5⟩ := sub_ex w5 n (.node k u c0 c1 c2 c3) l r b tp hn T5.out.reg T5.out.nd T5.out.at'
    have CN := cell_of_blk g1.1
    have FN := free_of_blk g1.1
    have hna : w2.heap.size ≠ n.1 := by have := HLT.out n.1 (g4 n.1 (by simp [bks])); have := HW2.out; omega
    have G1 := Lib.hid (g1.clear g3 none)
    have M1 := Lib.hid (Mod.set (S := [n.1]) (W := w5) ⟨n.1, 0, none⟩ (iv none) (by simp))
    have GR := Lib.hid (show Reg (.node n.1 none d0 d1 d2 d3) l' r' b' tp' from clr_reg g2)
    have G3 := Lib.hid g3; have G4 := Lib.hid g4; have G5 := Lib.hid g5; have HN := Lib.hid hn
    clear g1 g2 g3 g4 g5 hn hp
    go_wp2_with fail
    refine (rem_any (.node n.1 (some n.2) d0 d1 d2 d3) l' r' b' tp' _ (by simp) G1.out G3.out GR.out).mono ?_
    rintro e w7 hr
    obtain ⟨⟨v, rfl⟩, ⟨t', h1, h2, h3, h5⟩, h4⟩ := T5.out.gone (by simp) HN.out G5.out G1.out G3.out G4.out GR.out M1.out hr
    have FIN := Lib.hid (show GoneSays B q l b r tp (.node k u c0 c1 c2 c3) x w (.returned (.bool true)) w7 from
      ⟨.inl ⟨by rw [← hx]; exact List.mem_map_of_mem HN.out, rfl, t', h1, h2, by rw [← hx]; exact h3, fun k hk => .inl (h5 k hk)⟩, (Mod.of_ext B5.out).trans (h4.mono fun k hk => List.mem_cons_of_mem _ hk)⟩)
    clear hr h1 h2 h3 h4 h5
    go_wp2_with fail
    go_ret
    exact FIN.out

end Go.Proofs.YtmmmknmncdlopaaDoor
