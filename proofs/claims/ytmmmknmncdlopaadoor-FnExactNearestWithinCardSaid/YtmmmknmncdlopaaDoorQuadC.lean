/- Adding an item to a tree. No condition but that it lies in the region. -/
import Derived.Test.YtmmmknmncdlopaaDoorQuadD
import Derived.Deep.Cut
namespace Go.Proofs.YtmmmknmncdlopaaDoor
open Go.ChangeShapes Go.WideShapes Go.ChangeAt Go.RowKit
open Go.Proofs.YtmmmknmncdlopaaDoor.F

/-- What adding leaves. -/
def AddSays (t : Tr) (x : T3) (l r b tp : Nat) (w : World) (e : Ending) (w' : World) : Prop :=
  e = .returned (.tuple #[]) ∧ ∃ t', ptr t' = ptr t ∧ At w' t' ∧ (bks t').Nodup ∧ (∀ k ∈ bks t', k ∈ bks t ∨ w.heap.size ≤ k) ∧ Reg t' l r b tp ∧ (its t').Perm (x :: its t) ∧ Mod (bks t) w w'

theorem ptr_setc (i : Nat) (c : Tr) (k : Nat) (v : Option T3) (c0 c1 c2 c3 : Tr) : ptr (setc i c (.node k v c0 c1 c2 c3)) = .pointer (some ⟨k, 0, none⟩) := by
  match i with
  | 0 => rfl
  | 1 => rfl
  | 2 => rfl
  | i + 3 => rfl
theorem add_put {w w' : World} {k : Nat} {v : Option T3} {c0 c1 c2 c3 : Tr} {x : T3} {l r b tp : Nat} (i : Nat) (c : Tr) (hat : At w (.node k v c0 c1 c2 c3)) (nd : (bks (.node k v c0 c1 c2 c3)).Nodup) (hreg : Reg (.node k v c0 c1 c2 c3) l r b tp) (hin : Inr x l r b tp)
    (hk : w'.heap[k]? = some (.cells ((#[iv v, ptr c0, ptr c1, ptr c2, ptr c3] : Array Value).setIfInBounds (1 + min i 3) (ptr c)) 105 (0, 0))) (hc : At w' c) (ndc : (bks c).Nodup)
    (hb : ∀ j ∈ bks c, j ∈ bks (ch i (.node k v c0 c1 c2 c3)) ∨ w.heap.size ≤ j) (hr : Reg c (rl i l r) (rr i l r) (rb i b tp) (rt i b tp)) (hp : (its c).Perm (x :: its (ch i (.node k v c0 c1 c2 c3))))
    (hm : Mod (bks (.node k v c0 c1 c2 c3)) w w') (hoth : ∀ j ∈ bks (.node k v c0 c1 c2 c3), j ≠ k → j ∉ bks (ch i (.node k v c0 c1 c2 c3)) → w'.heap[j]? = w.heap[j]?) :
    AddSays (.node k v c0 c1 c2 c3) x l r b tp w (.returned (.tuple #[])) w' := by
  have hne : (Tr.node k v c0 c1 c2 c3) ≠ .nil := by simp
  obtain ⟨A, B, e1, e2⟩ := its_append (.node k v c0 c1 c2 c3) i c
  replace e2 := e2 hne
  obtain ⟨C, D, f1, f2⟩ := bks_append (.node k v c0 c1 c2 c3) i c hne
  have hperm : (its (setc i c (.node k v c0 c1 c2 c3))).Perm (x :: its (.node k v c0 c1 c2 c3)) := by
    rw [e1, e2]
    refine (List.Perm.append_left A (List.Perm.append_right B hp)).trans ?_
    exact List.perm_middle
  refine ⟨rfl, setc i c (.node k v c0 c1 c2 c3), ptr_setc .., at_setc hat nd hk hc hoth, ?_, ?_, reg_setc hreg hr ?_, hperm, hm⟩
  · rw [f2]
    have h1 := nd
    rw [f1] at h1
    refine nodup_mid h1 ndc fun j hj => ?_
    rcases hb j hj with h | h
    · exact .inl h
    · right
      have hlt : ∀ m ∈ bks (.node k v c0 c1 c2 c3), m < w.heap.size := hat.lt
      rw [f1] at hlt
      exact ⟨fun hm => by have := hlt j (by simp [hm]); omega, fun hm => by have := hlt j (by simp [hm]); omega⟩
  · intro j hj
    rw [f2] at hj
    rw [f1]
    simp only [List.mem_append] at hj ⊢
    rcases hj with h | h | h
    · exact .inl (.inl h)
    · rcases hb j h with h | h
      · exact .inl (.inr (.inl h))
      · exact .inr h
    · exact .inl (.inr (.inr h))
  · intro y hy
    have := hperm.mem_iff.1 hy
    rcases List.mem_cons.1 this with rfl | h
    · exact hin
    · exact reg_its hreg y h

set_option maxRecDepth 8000 in
set_option maxHeartbeats 6400000 in
theorem add_any (q : Nat) (x : T3) (hx : Sm x) : ∀ (t : Tr) (l r b tp : Nat) (w : World), t ≠ .nil → At w t → (bks t).Nodup → Reg t l r b tp → Inr x l r b tp → Bd l → Bd r → Bd b → Bd tp →
    Calls Tryd.prog 54 #[.pointer (some ⟨q, 0, none⟩), ptr t, iv (some x), .agg #[fl (I x.1), fl (I x.2.1)], fl l, fl r, fl b, fl tp] w (AddSays t x l r b tp w) := by
  intro t
  induction t with
  | nil => intro _ _ _ _ _ h; exact absurd rfl h
  | node k v c0 c1 c2 c3 ih0 ih1 ih2 ih3 =>
    intro l r b tp w _ hat nd hreg hin bl br bb bt
    have IH := Lib.hid (show ∀ i, ∀ (l r b tp : Nat) (w : World), ch i (.node k v c0 c1 c2 c3) ≠ .nil → At w (ch i (.node k v c0 c1 c2 c3)) → (bks (ch i (.node k v c0 c1 c2 c3))).Nodup → Reg (ch i (.node k v c0 c1 c2 c3)) l r b tp → Inr x l r b tp → Bd l → Bd r → Bd b → Bd tp →
        Calls Tryd.prog 54 #[.pointer (some ⟨q, 0, none⟩), ptr (ch i (.node k v c0 c1 c2 c3)), iv (some x), .agg #[fl (I x.1), fl (I x.2.1)], fl l, fl r, fl b, fl tp] w (AddSays (ch i (.node k v c0 c1 c2 c3)) x l r b tp w) from fun i => by
      match i with
      | 0 => exact ih0
      | 1 => exact ih1
      | 2 => exact ih2
      | i + 3 => exact ih3)
    obtain ⟨sx, qx, bmx⟩ := mid_run bl br
    obtain ⟨sy, qy, bmy⟩ := mid_run bb bt
    have ox := ord_val (bd_I x.1 (by have := hx.1; omega)) bmx
    have oy := ord_val (bd_I x.2.1 (by have := hx.2; omega)) bmy
    rw [val_I _ (by have := hx.1; omega)] at ox
    rw [val_I _ (by have := hx.2; omega)] at oy
    obtain ⟨a, ha, hav⟩ := tri (x.1 * U) (val (midw l r))
    obtain ⟨c, hc, hcv⟩ := tri (x.2.1 * U) (val (midw b tp))
    rw [ha] at ox; rw [hc] at oy
    clear ha hc
    have st := st_fl
    have h0 := hat.1
    have C0 := cell_of_blk h0
    have F0 := free_of_blk h0
    have H := Lib.hid hat
    have HN := Lib.hid nd; have HR := Lib.hid hreg; have HI := Lib.hid hin
    have HA := Lib.hid hav; have HC := Lib.hid hcv
    have H0 := Lib.hid h0
    clear hat h0 nd hreg hin hav hcv ih0 ih1 ih2 ih3
    have hkw : k < w.heap.size := H.out.lt k (by simp [bks])
    change Calls _ _ #[_, .pointer (some ⟨k, 0, none⟩), .iface 25 (.agg #[.int .i64 x.1, .int .i64 x.2.1, .int .i64 x.2.2]), _, _, _, _, _] _ _
    go_enter Tryd.func54, Tryd.ntmps54
    go_upto_if 26 with fail
    go_cut [6, 7, 16] from 17 (fun s6 s7 s16 wc => ∃ (ii : Int) (b' t' : Nat), s16 = .int .i64 ii ∧ s6 = fl b' ∧ s7 = fl t' ∧ 0 ≤ ii ∧ ii ≤ 2 ∧ RowKit.Hid (∀ m : Nat, m ≤ 1 → ∃ p : Nat, ii + m = p ∧ p % 2 = m ∧ p ≤ 3 ∧ b' = rb p b tp ∧ t' = rt p b tp ∧ val b' ≤ x.2.1 * U ∧ x.2.1 * U ≤ val t') ∧ wc = w.alloc (.cells #[fl (I x.1), fl (I x.2.1)] 64))
    case first =>
      have u1 : ∀ (hh : x.2.1 * U ≤ val (midw b tp)), RowKit.Hid (∀ m : Nat, m ≤ 1 → ∃ p : Nat, (2 : Int) + m = p ∧ p % 2 = m ∧ p ≤ 3 ∧ b = rb p b tp ∧ midw b tp = rt p b tp ∧ val b ≤ x.2.1 * U ∧ x.2.1 * U ≤ val (midw b tp)) := fun hh => Lib.hid fun m hm =>
        ⟨2 + m, by omega, by omega, by omega, by rcases (by omega : m = 0 ∨ m = 1) with rfl | rfl <;> rfl, by rcases (by omega : m = 0 ∨ m = 1) with rfl | rfl <;> rfl, HI.out.2.2.1, hh⟩
      have u2 : ∀ (hh : val (midw b tp) ≤ x.2.1 * U), RowKit.Hid (∀ m : Nat, m ≤ 1 → ∃ p : Nat, (0 : Int) + m = p ∧ p % 2 = m ∧ p ≤ 3 ∧ midw b tp = rb p b tp ∧ tp = rt p b tp ∧ val (midw b tp) ≤ x.2.1 * U ∧ x.2.1 * U ≤ val tp) := fun hh => Lib.hid fun m hm =>
        ⟨m, by omega, by omega, by omega, by rcases (by omega : m = 0 ∨ m = 1) with rfl | rfl <;> rfl, by rcases (by omega : m = 0 ∨ m = 1) with rfl | rfl <;> rfl, hh, HI.out.2.2.2⟩
      have u1 := Lib.hid u1; have u2 := Lib.hid u2
      rcases HC.out with ⟨rfl, h⟩ | ⟨rfl, h⟩ | ⟨rfl, h⟩
      · have h := Lib.hid h
        go_wp2_with fail
        go_meet
        exact ⟨2, b, midw b tp, rfl, rfl, rfl, by omega, by omega, u1.out (Int.le_of_lt h.out), rfl⟩
      · have h := Lib.hid h
        go_wp2_with fail
        go_meet
        exact ⟨2, b, midw b tp, rfl, rfl, rfl, by omega, by omega, u1.out (Int.le_of_eq h.out), rfl⟩
      · have h := Lib.hid h
        go_wp2_with fail
        go_meet
        exact ⟨0, midw b tp, tp, rfl, rfl, rfl, by omega, by omega, u2.out (Int.le_of_lt h.out), rfl⟩
    case rest =>
      obtain ⟨ii, b', t', rfl, rfl, rfl, hi0, hi2, HV, rfl⟩ := hcut
      clear oy HC c
      go_upto_if 36 with fail
      go_cut [4, 5, 16] from 17 (fun s4 s5 s16 wc => ∃ (p : Nat) (l' r' : Nat), s16 = .int .i64 (p : Nat) ∧ s4 = fl l' ∧ s5 = fl r' ∧ p ≤ 3 ∧ RowKit.Hid (l' = rl p l r ∧ r' = rr p l r ∧ b' = rb p b tp ∧ t' = rt p b tp ∧ Inr x l' r' b' t') ∧ wc = w.alloc (.cells #[fl (I x.1), fl (I x.2.1)] 64))
      case first =>
        obtain ⟨p0, e0, m0, z0, v0⟩ := HV.out 0 (by omega)
        obtain ⟨p1, e1, m1, z1, v1⟩ := HV.out 1 (by omega)
        have A0 := Lib.hid v0; have A1 := Lib.hid v1
        clear v0 v1 HV
        have E0 := Lib.hid (show ii = p0 by omega); have E1 := Lib.hid (show ii + 1 = p1 by omega)
        have L0 := Lib.hid (show ∀ (hh : x.1 * U ≤ val (midw l r)), RowKit.Hid (l = rl p0 l r ∧ midw l r = rr p0 l r ∧ b' = rb p0 b tp ∧ t' = rt p0 b tp ∧ Inr x l (midw l r) b' t') from fun hh => by
          obtain ⟨a1, a2, a3, a4⟩ := A0.out
          rcases (by omega : p0 = 0 ∨ p0 = 2) with rfl | rfl <;> exact Lib.hid ⟨rfl, rfl, a1, a2, HI.out.1, hh, a3, a4⟩)
        have L1 := Lib.hid (show ∀ (hh : val (midw l r) ≤ x.1 * U), RowKit.Hid (midw l r = rl p1 l r ∧ r = rr p1 l r ∧ b' = rb p1 b tp ∧ t' = rt p1 b tp ∧ Inr x (midw l r) r b' t') from fun hh => by
          obtain ⟨a1, a2, a3, a4⟩ := A1.out
          rcases (by omega : p1 = 1 ∨ p1 = 3) with rfl | rfl <;> exact Lib.hid ⟨rfl, rfl, a1, a2, hh, HI.out.2.1, a3, a4⟩)
        clear e0 e1 m0 m1 A0 A1
        rcases HA.out with ⟨rfl, h⟩ | ⟨rfl, h⟩ | ⟨rfl, h⟩
        · have h := Lib.hid h
          go_wp2_with fail
          go_meet
          exact ⟨p0, l, midw l r, by rw [E0.out], rfl, rfl, z0, L0.out (Int.le_of_lt h.out), rfl⟩
        · have h := Lib.hid h
          go_wp2_with fail
          go_meet
          exact ⟨p1, midw l r, r, by rw [E1.out], rfl, rfl, z1, L1.out (Int.le_of_eq h.out.symm), rfl⟩
        · have h := Lib.hid h
          go_wp2_with fail
          go_meet
          exact ⟨p1, midw l r, r, by rw [E1.out], rfl, rfl, z1, L1.out (Int.le_of_lt h.out), rfl⟩
      case rest =>
        clear HV
        have HIN := HI; clear HI
        obtain ⟨p, l', r', rfl, rfl, rfl, hp3, HV, rfl⟩ := hcut
        clear ox HA a
        rcases (by omega : p = 0 ∨ p = 1 ∨ p = 2 ∨ p = 3) with rfl | rfl | rfl | rfl
        · obtain ⟨el, er, eb, et, hin'⟩ := HV.out; subst el er eb et
          have HI' := Lib.hid hin'; clear HV hin'
          rcases c0 with _ | ⟨k', u, d0, d1, d2, d3⟩
          · have C1 := cell_of_blk (show w.heap[k]? = some (.cells #[iv v, .pointer none, ptr c1, ptr c2, ptr c3] 105 (0, 0)) from H0.out)
            have n1 : k ≠ w.heap.size := by omega
            have n2 : k ≠ w.heap.size + 1 := by omega
            clear C0
            go_wp2
            refine bodyPost_ret (v := .tuple #[]) (by simp [results, Tryd.results54, go_sem]) rfl ?_
            have X0 := fun W : World => ((Ext.refl W).alloc (.cells #[fl (I x.1), fl (I x.2.1)] 64)).alloc (.cells #[iv (some x), .pointer none, .pointer none, .pointer none, .pointer none] 105)
            have B1 := blk_new ((w.setCell ⟨k, 1, none⟩ (.pointer (some ⟨w.heap.size + 1, 0, none⟩))).alloc (.cells #[fl (I x.1), fl (I x.2.1)] 64)) (.cells #[iv (some x), .pointer none, .pointer none, .pointer none, .pointer none] 105)
            rw [show ((w.setCell ⟨k, 1, none⟩ (.pointer (some ⟨w.heap.size + 1, 0, none⟩))).alloc (.cells #[fl (I x.1), fl (I x.2.1)] 64)).heap.size = w.heap.size + 1 by simp] at B1
            refine add_put 0 (.node (w.heap.size + 1) (some x) .nil .nil .nil .nil) H.out HN.out HR.out HIN.out (blk_old (blk_old (by rw [blk_setCell H0.out]; rfl) _) _) ⟨B1, trivial, trivial, trivial, trivial⟩ (by simp [bks]) (by simp [bks]) ⟨fun y hy => ?_, trivial, trivial, trivial, trivial⟩ (by simp [its, nds, ch]) ((Mod.set ⟨k, 1, none⟩ _ (by simp [bks])).trans (Mod.of_ext (X0 _))) ?_
            · simp [its, nds] at hy; subst hy; exact HI'.out
            · intro j hj hk _
              exact ((X0 _).block j (by rw [size_setCell]; exact H.out.lt j hj)).trans (blk_setCell_ne hk _ _)
          · rcases u with _ | y
            · have C1 := cell_of_blk (show w.heap[k]? = some (.cells #[iv v, .pointer (some ⟨k', 0, none⟩), ptr c1, ptr c2, ptr c3] 105 (0, 0)) from H0.out)
              have HC := at_ch H.out 0
              have h0' : w.heap[k']? = some (.cells #[.nilIface, ptr d0, ptr d1, ptr d2, ptr d3] 105 (0, 0)) := HC.1
              have C2 := cell_of_blk h0'
              have F2 := free_of_blk h0'
              have hkw' := (Array.getElem?_eq_some_iff.1 h0').1
              have hkk : k' ≠ k := by have := HN.out; simp only [bks, List.nodup_cons, List.mem_append, List.mem_cons] at this; grind
              have n1 : k ≠ w.heap.size := by omega
              have n2 : k' ≠ w.heap.size := by omega
              have HC := Lib.hid HC; have H0' := Lib.hid h0'
              clear C0 h0'
              go_wp2
              refine bodyPost_ret (v := .tuple #[]) (by simp [results, Tryd.results54, go_sem]) rfl ?_
              have X0 := fun W : World => (Ext.refl W).alloc (.cells #[fl (I x.1), fl (I x.2.1)] 64)
              have hnc := nodup_ch HN.out 0
              have hrc := reg_ch HR.out 0
              have hn2 := hnc
              simp only [ch, bks, List.nodup_cons, List.mem_append] at hn2
              have oth : ∀ j, j < w.heap.size → j ≠ k' → ((w.setCell ⟨k', 0, none⟩ (.iface 25 (.agg #[.int .i64 x.1, .int .i64 x.2.1, .int .i64 x.2.2]))).alloc (.cells #[fl (I x.1), fl (I x.2.1)] 64)).heap[j]? = w.heap[j]? := fun j hj hk =>
                ((X0 _).block j (by rw [size_setCell]; exact hj)).trans (blk_setCell_ne hk _ _)
              have g : ∀ d : Tr, At w d → k' ∉ bks d → At _ d := fun d hd hm => hd.frame fun j hj => oth j (hd.lt j hj) (fun e => hm (e ▸ hj))
              refine add_put 0 (.node k' (some x) d0 d1 d2 d3) H.out HN.out HR.out HIN.out ((oth k hkw (Ne.symm hkk)).trans H0.out) ⟨blk_old (by rw [blk_setCell H0'.out]; rfl) _, g d0 HC.out.2.1 (by grind), g d1 HC.out.2.2.1 (by grind), g d2 HC.out.2.2.2.1 (by grind), g d3 HC.out.2.2.2.2 (by grind)⟩ hnc (fun j hj => .inl hj) ⟨fun y hy => ?_, hrc.2⟩ (by simp [its_node, ch]) ((Mod.set ⟨k', 0, none⟩ _ (bks_ch 0 k' (by simp [ch, bks]))).trans (Mod.of_ext (X0 _))) ?_
              · rw [its_node] at hy
                rcases List.mem_append.1 hy with h | h
                · simp at h; subst h; exact HI'.out
                · exact reg_its hrc y (by simp only [ch, its_node]; simpa using h)
              · intro j hj hk hno
                exact oth j (H.out.lt j hj) (fun e => hno (by simp [ch, bks, e]))
            · have C1 := cell_of_blk (show w.heap[k]? = some (.cells #[iv v, .pointer (some ⟨k', 0, none⟩), ptr c1, ptr c2, ptr c3] 105 (0, 0)) from H0.out)
              have HC := at_ch H.out 0
              have h0' : w.heap[k']? = some (.cells #[.iface 25 (.agg #[.int .i64 y.1, .int .i64 y.2.1, .int .i64 y.2.2]), ptr d0, ptr d1, ptr d2, ptr d3] 105 (0, 0)) := HC.1
              have C2 := cell_of_blk h0'
              have hkw' := (Array.getElem?_eq_some_iff.1 h0').1
              have n1 : k ≠ w.heap.size := by omega
              have n2 : k' ≠ w.heap.size := by omega
              have BK := Lib.hid (blk_old H0.out (.cells #[fl (I x.1), fl (I x.2.1)] 64))
              have BP := Lib.hid (blk_new w (.cells #[fl (I x.1), fl (I x.2.1)] 64))
              have X0 := Lib.hid ((Ext.refl w).alloc (.cells #[fl (I x.1), fl (I x.2.1)] 64))
              clear C0 h0' HC
              go_wp2_with fail
              generalize (w.alloc (.cells #[fl (I x.1), fl (I x.2.1)] 64)) = wb at *
              refine region_ext_tail 13 (by kernel_rfl) (by kernel_rfl) (fun hc => ?_)
              simp only [List.take_succ_cons, List.take_zero, List.drop_succ_cons, List.drop_zero]
              have L1 := fun e : Later wb => cell_of_blk (Ext.blk e.h (show wb.heap[k]? = some (.cells #[iv v, .pointer (some ⟨k', 0, none⟩), ptr c1, ptr c2, ptr c3] 105 (0, 0)) from BK.out))
              have L2 := fun e : Later wb => cell_of_blk (Ext.blk e.h BP.out)
              repeat (go_big_quiet_step (fail))
              refine wpQuiet_nil ?_
              rintro w3 ⟨⟨_, hw3⟩, rfl⟩
              have X3 := Lib.hid (X0.out.trans hw3)
              clear L1 L2 hc C1 C2
              go_wp2_with fail
              refine (IH.out 0 _ _ _ _ w3 (by simp [ch]) ((at_ch H.out 0).ext X3.out) (nodup_ch HN.out 0) (reg_ch HR.out 0) HI'.out bl bmx bmy bt).mono ?_
              rintro e w5 ⟨rfl, t5, hp5, hat5, nd5, hb5, hr5, hi5, hm5⟩
              have FIN := Lib.hid (show AddSays (.node k v (.node k' (some y) d0 d1 d2 d3) c1 c2 c3) x l' r b t' w (.returned (.tuple #[])) w5 from by
                have hkn : k ∉ bks (ch 0 (.node k v (.node k' (some y) d0 d1 d2 d3) c1 c2 c3)) := by have := HN.out; simp only [bks, List.nodup_cons, List.mem_append, List.mem_cons, ch] at this ⊢; grind
                refine add_put 0 t5 H.out HN.out HR.out HIN.out ?_ hat5 nd5 (fun j hj => ?_) hr5 hi5 ((Mod.of_ext X3.out).trans (hm5.mono (bks_ch 0))) ?_
                · rw [hm5.block k (Nat.lt_of_lt_of_le hkw X3.out.size) hkn, X3.out.block k hkw, H0.out, hp5]; rfl
                · rcases hb5 j hj with h | h
                  · exact .inl h
                  · exact .inr (Nat.le_trans X3.out.size h)
                · intro j hj _ hno
                  rw [hm5.block j (Nat.lt_of_lt_of_le (H.out.lt j hj) X3.out.size) hno]; exact X3.out.block j (H.out.lt j hj))
              clear hp5 hat5 nd5 hb5 hr5 hi5 hm5
              go_wp2
              exact bodyPost_ret (v := .tuple #[]) (by simp [results, Tryd.results54, go_sem]) rfl FIN.out
        · obtain ⟨el, er, eb, et, hin'⟩ := HV.out; subst el er eb et
          have HI' := Lib.hid hin'; clear HV hin'
          rcases c1 with _ | ⟨k', u, d0, d1, d2, d3⟩
          · have C1 := cell_of_blk (show w.heap[k]? = some (.cells #[iv v, ptr c0, .pointer none, ptr c2, ptr c3] 105 (0, 0)) from H0.out)
            have n1 : k ≠ w.heap.size := by omega
            have n2 : k ≠ w.heap.size + 1 := by omega
            clear C0
            go_wp2
            refine bodyPost_ret (v := .tuple #[]) (by simp [results, Tryd.results54, go_sem]) rfl ?_
            have X0 := fun W : World => ((Ext.refl W).alloc (.cells #[fl (I x.1), fl (I x.2.1)] 64)).alloc (.cells #[iv (some x), .pointer none, .pointer none, .pointer none, .pointer none] 105)
            have B1 := blk_new ((w.setCell ⟨k, 2, none⟩ (.pointer (some ⟨w.heap.size + 1, 0, none⟩))).alloc (.cells #[fl (I x.1), fl (I x.2.1)] 64)) (.cells #[iv (some x), .pointer none, .pointer none, .pointer none, .pointer none] 105)
            rw [show ((w.setCell ⟨k, 2, none⟩ (.pointer (some ⟨w.heap.size + 1, 0, none⟩))).alloc (.cells #[fl (I x.1), fl (I x.2.1)] 64)).heap.size = w.heap.size + 1 by simp] at B1
            refine add_put 1 (.node (w.heap.size + 1) (some x) .nil .nil .nil .nil) H.out HN.out HR.out HIN.out (blk_old (blk_old (by rw [blk_setCell H0.out]; rfl) _) _) ⟨B1, trivial, trivial, trivial, trivial⟩ (by simp [bks]) (by simp [bks]) ⟨fun y hy => ?_, trivial, trivial, trivial, trivial⟩ (by simp [its, nds, ch]) ((Mod.set ⟨k, 2, none⟩ _ (by simp [bks])).trans (Mod.of_ext (X0 _))) ?_
            · simp [its, nds] at hy; subst hy; exact HI'.out
            · intro j hj hk _
              exact ((X0 _).block j (by rw [size_setCell]; exact H.out.lt j hj)).trans (blk_setCell_ne hk _ _)
          · rcases u with _ | y
            · have C1 := cell_of_blk (show w.heap[k]? = some (.cells #[iv v, ptr c0, .pointer (some ⟨k', 0, none⟩), ptr c2, ptr c3] 105 (0, 0)) from H0.out)
              have HC := at_ch H.out 1
              have h0' : w.heap[k']? = some (.cells #[.nilIface, ptr d0, ptr d1, ptr d2, ptr d3] 105 (0, 0)) := HC.1
              have C2 := cell_of_blk h0'
              have F2 := free_of_blk h0'
              have hkw' := (Array.getElem?_eq_some_iff.1 h0').1
              have hkk : k' ≠ k := by have := HN.out; simp only [bks, List.nodup_cons, List.mem_append, List.mem_cons] at this; grind
              have n1 : k ≠ w.heap.size := by omega
              have n2 : k' ≠ w.heap.size := by omega
              have HC := Lib.hid HC; have H0' := Lib.hid h0'
              clear C0 h0'
              go_wp2
              refine bodyPost_ret (v := .tuple #[]) (by simp [results, Tryd.results54, go_sem]) rfl ?_
              have X0 := fun W : World => (Ext.refl W).alloc (.cells #[fl (I x.1), fl (I x.2.1)] 64)
              have hnc := nodup_ch HN.out 1
              have hrc := reg_ch HR.out 1
              have hn2 := hnc
              simp only [ch, bks, List.nodup_cons, List.mem_append] at hn2
              have oth : ∀ j, j < w.heap.size → j ≠ k' → ((w.setCell ⟨k', 0, none⟩ (.iface 25 (.agg #[.int .i64 x.1, .int .i64 x.2.1, .int .i64 x.2.2]))).alloc (.cells #[fl (I x.1), fl (I x.2.1)] 64)).heap[j]? = w.heap[j]? := fun j hj hk =>
                ((X0 _).block j (by rw [size_setCell]; exact hj)).trans (blk_setCell_ne hk _ _)
              have g : ∀ d : Tr, At w d → k' ∉ bks d → At _ d := fun d hd hm => hd.frame fun j hj => oth j (hd.lt j hj) (fun e => hm (e ▸ hj))
              refine add_put 1 (.node k' (some x) d0 d1 d2 d3) H.out HN.out HR.out HIN.out ((oth k hkw (Ne.symm hkk)).trans H0.out) ⟨blk_old (by rw [blk_setCell H0'.out]; rfl) _, g d0 HC.out.2.1 (by grind), g d1 HC.out.2.2.1 (by grind), g d2 HC.out.2.2.2.1 (by grind), g d3 HC.out.2.2.2.2 (by grind)⟩ hnc (fun j hj => .inl hj) ⟨fun y hy => ?_, hrc.2⟩ (by simp [its_node, ch]) ((Mod.set ⟨k', 0, none⟩ _ (bks_ch 1 k' (by simp [ch, bks]))).trans (Mod.of_ext (X0 _))) ?_
              · rw [its_node] at hy
                rcases List.mem_append.1 hy with h | h
                · simp at h; subst h; exact HI'.out
                · exact reg_its hrc y (by simp only [ch, its_node]; simpa using h)
              · intro j hj hk hno
                exact oth j (H.out.lt j hj) (fun e => hno (by simp [ch, bks, e]))
            · have C1 := cell_of_blk (show w.heap[k]? = some (.cells #[iv v, ptr c0, .pointer (some ⟨k', 0, none⟩), ptr c2, ptr c3] 105 (0, 0)) from H0.out)
              have HC := at_ch H.out 1
              have h0' : w.heap[k']? = some (.cells #[.iface 25 (.agg #[.int .i64 y.1, .int .i64 y.2.1, .int .i64 y.2.2]), ptr d0, ptr d1, ptr d2, ptr d3] 105 (0, 0)) := HC.1
              have C2 := cell_of_blk h0'
              have hkw' := (Array.getElem?_eq_some_iff.1 h0').1
              have n1 : k ≠ w.heap.size := by omega
              have n2 : k' ≠ w.heap.size := by omega
              have BK := Lib.hid (blk_old H0.out (.cells #[fl (I x.1), fl (I x.2.1)] 64))
              have BP := Lib.hid (blk_new w (.cells #[fl (I x.1), fl (I x.2.1)] 64))
              have X0 := Lib.hid ((Ext.refl w).alloc (.cells #[fl (I x.1), fl (I x.2.1)] 64))
              clear C0 h0' HC
              go_wp2_with fail
              generalize (w.alloc (.cells #[fl (I x.1), fl (I x.2.1)] 64)) = wb at *
              refine region_ext_tail 13 (by kernel_rfl) (by kernel_rfl) (fun hc => ?_)
              simp only [List.take_succ_cons, List.take_zero, List.drop_succ_cons, List.drop_zero]
              have L1 := fun e : Later wb => cell_of_blk (Ext.blk e.h (show wb.heap[k]? = some (.cells #[iv v, ptr c0, .pointer (some ⟨k', 0, none⟩), ptr c2, ptr c3] 105 (0, 0)) from BK.out))
              have L2 := fun e : Later wb => cell_of_blk (Ext.blk e.h BP.out)
              repeat (go_big_quiet_step (fail))
              refine wpQuiet_nil ?_
              rintro w3 ⟨⟨_, hw3⟩, rfl⟩
              have X3 := Lib.hid (X0.out.trans hw3)
              clear L1 L2 hc C1 C2
              go_wp2_with fail
              refine (IH.out 1 _ _ _ _ w3 (by simp [ch]) ((at_ch H.out 1).ext X3.out) (nodup_ch HN.out 1) (reg_ch HR.out 1) HI'.out bmx br bmy bt).mono ?_
              rintro e w5 ⟨rfl, t5, hp5, hat5, nd5, hb5, hr5, hi5, hm5⟩
              have FIN := Lib.hid (show AddSays (.node k v c0 (.node k' (some y) d0 d1 d2 d3) c2 c3) x l r' b t' w (.returned (.tuple #[])) w5 from by
                have hkn : k ∉ bks (ch 1 (.node k v c0 (.node k' (some y) d0 d1 d2 d3) c2 c3)) := by have := HN.out; simp only [bks, List.nodup_cons, List.mem_append, List.mem_cons, ch] at this ⊢; grind
                refine add_put 1 t5 H.out HN.out HR.out HIN.out ?_ hat5 nd5 (fun j hj => ?_) hr5 hi5 ((Mod.of_ext X3.out).trans (hm5.mono (bks_ch 1))) ?_
                · rw [hm5.block k (Nat.lt_of_lt_of_le hkw X3.out.size) hkn, X3.out.block k hkw, H0.out, hp5]; rfl
                · rcases hb5 j hj with h | h
                  · exact .inl h
                  · exact .inr (Nat.le_trans X3.out.size h)
                · intro j hj _ hno
                  rw [hm5.block j (Nat.lt_of_lt_of_le (H.out.lt j hj) X3.out.size) hno]; exact X3.out.block j (H.out.lt j hj))
              clear hp5 hat5 nd5 hb5 hr5 hi5 hm5
              go_wp2
              exact bodyPost_ret (v := .tuple #[]) (by simp [results, Tryd.results54, go_sem]) rfl FIN.out
        · obtain ⟨el, er, eb, et, hin'⟩ := HV.out; subst el er eb et
          have HI' := Lib.hid hin'; clear HV hin'
          rcases c2 with _ | ⟨k', u, d0, d1, d2, d3⟩
          · have C1 := cell_of_blk (show w.heap[k]? = some (.cells #[iv v, ptr c0, ptr c1, .pointer none, ptr c3] 105 (0, 0)) from H0.out)
            have n1 : k ≠ w.heap.size := by omega
            have n2 : k ≠ w.heap.size + 1 := by omega
            clear C0
            go_wp2
            refine bodyPost_ret (v := .tuple #[]) (by simp [results, Tryd.results54, go_sem]) rfl ?_
            have X0 := fun W : World => ((Ext.refl W).alloc (.cells #[fl (I x.1), fl (I x.2.1)] 64)).alloc (.cells #[iv (some x), .pointer none, .pointer none, .pointer none, .pointer none] 105)
            have B1 := blk_new ((w.setCell ⟨k, 3, none⟩ (.pointer (some ⟨w.heap.size + 1, 0, none⟩))).alloc (.cells #[fl (I x.1), fl (I x.2.1)] 64)) (.cells #[iv (some x), .pointer none, .pointer none, .pointer none, .pointer none] 105)
            rw [show ((w.setCell ⟨k, 3, none⟩ (.pointer (some ⟨w.heap.size + 1, 0, none⟩))).alloc (.cells #[fl (I x.1), fl (I x.2.1)] 64)).heap.size = w.heap.size + 1 by simp] at B1
            refine add_put 2 (.node (w.heap.size + 1) (some x) .nil .nil .nil .nil) H.out HN.out HR.out HIN.out (blk_old (blk_old (by rw [blk_setCell H0.out]; rfl) _) _) ⟨B1, trivial, trivial, trivial, trivial⟩ (by simp [bks]) (by simp [bks]) ⟨fun y hy => ?_, trivial, trivial, trivial, trivial⟩ (by simp [its, nds, ch]) ((Mod.set ⟨k, 3, none⟩ _ (by simp [bks])).trans (Mod.of_ext (X0 _))) ?_
            · simp [its, nds] at hy; subst hy; exact HI'.out
            · intro j hj hk _
              exact ((X0 _).block j (by rw [size_setCell]; exact H.out.lt j hj)).trans (blk_setCell_ne hk _ _)
          · rcases u with _ | y
            · have C1 := cell_of_blk (show w.heap[k]? = some (.cells #[iv v, ptr c0, ptr c1, .pointer (some ⟨k', 0, none⟩), ptr c3] 105 (0, 0)) from H0.out)
              have HC := at_ch H.out 2
              have h0' : w.heap[k']? = some (.cells #[.nilIface, ptr d0, ptr d1, ptr d2, ptr d3] 105 (0, 0)) := HC.1
              have C2 := cell_of_blk h0'
              have F2 := free_of_blk h0'
              have hkw' := (Array.getElem?_eq_some_iff.1 h0').1
              have hkk : k' ≠ k := by have := HN.out; simp only [bks, List.nodup_cons, List.mem_append, List.mem_cons] at this; grind
              have n1 : k ≠ w.heap.size := by omega
              have n2 : k' ≠ w.heap.size := by omega
              have HC := Lib.hid HC; have H0' := Lib.hid h0'
              clear C0 h0'
              go_wp2
              refine bodyPost_ret (v := .tuple #[]) (by simp [results, Tryd.results54, go_sem]) rfl ?_
              have X0 := fun W : World => (Ext.refl W).alloc (.cells #[fl (I x.1), fl (I x.2.1)] 64)
              have hnc := nodup_ch HN.out 2
              have hrc := reg_ch HR.out 2
              have hn2 := hnc
              simp only [ch, bks, List.nodup_cons, List.mem_append] at hn2
              have oth : ∀ j, j < w.heap.size → j ≠ k' → ((w.setCell ⟨k', 0, none⟩ (.iface 25 (.agg #[.int .i64 x.1, .int .i64 x.2.1, .int .i64 x.2.2]))).alloc (.cells #[fl (I x.1), fl (I x.2.1)] 64)).heap[j]? = w.heap[j]? := fun j hj hk =>
                ((X0 _).block j (by rw [size_setCell]; exact hj)).trans (blk_setCell_ne hk _ _)
              have g : ∀ d : Tr, At w d → k' ∉ bks d → At _ d := fun d hd hm => hd.frame fun j hj => oth j (hd.lt j hj) (fun e => hm (e ▸ hj))
              refine add_put 2 (.node k' (some x) d0 d1 d2 d3) H.out HN.out HR.out HIN.out ((oth k hkw (Ne.symm hkk)).trans H0.out) ⟨blk_old (by rw [blk_setCell H0'.out]; rfl) _, g d0 HC.out.2.1 (by grind), g d1 HC.out.2.2.1 (by grind), g d2 HC.out.2.2.2.1 (by grind), g d3 HC.out.2.2.2.2 (by grind)⟩ hnc (fun j hj => .inl hj) ⟨fun y hy => ?_, hrc.2⟩ (by simp [its_node, ch]) ((Mod.set ⟨k', 0, none⟩ _ (bks_ch 2 k' (by simp [ch, bks]))).trans (Mod.of_ext (X0 _))) ?_
              · rw [its_node] at hy
                rcases List.mem_append.1 hy with h | h
                · simp at h; subst h; exact HI'.out
                · exact reg_its hrc y (by simp only [ch, its_node]; simpa using h)
              · intro j hj hk hno
                exact oth j (H.out.lt j hj) (fun e => hno (by simp [ch, bks, e]))
            · have C1 := cell_of_blk (show w.heap[k]? = some (.cells #[iv v, ptr c0, ptr c1, .pointer (some ⟨k', 0, none⟩), ptr c3] 105 (0, 0)) from H0.out)
              have HC := at_ch H.out 2
              have h0' : w.heap[k']? = some (.cells #[.iface 25 (.agg #[.int .i64 y.1, .int .i64 y.2.1, .int .i64 y.2.2]), ptr d0, ptr d1, ptr d2, ptr d3] 105 (0, 0)) := HC.1
              have C2 := cell_of_blk h0'
              have hkw' := (Array.getElem?_eq_some_iff.1 h0').1
              have n1 : k ≠ w.heap.size := by omega
              have n2 : k' ≠ w.heap.size := by omega
              have BK := Lib.hid (blk_old H0.out (.cells #[fl (I x.1), fl (I x.2.1)] 64))
              have BP := Lib.hid (blk_new w (.cells #[fl (I x.1), fl (I x.2.1)] 64))
              have X0 := Lib.hid ((Ext.refl w).alloc (.cells #[fl (I x.1), fl (I x.2.1)] 64))
              clear C0 h0' HC
              go_wp2_with fail
              generalize (w.alloc (.cells #[fl (I x.1), fl (I x.2.1)] 64)) = wb at *
              refine region_ext_tail 13 (by kernel_rfl) (by kernel_rfl) (fun hc => ?_)
              simp only [List.take_succ_cons, List.take_zero, List.drop_succ_cons, List.drop_zero]
              have L1 := fun e : Later wb => cell_of_blk (Ext.blk e.h (show wb.heap[k]? = some (.cells #[iv v, ptr c0, ptr c1, .pointer (some ⟨k', 0, none⟩), ptr c3] 105 (0, 0)) from BK.out))
              have L2 := fun e : Later wb => cell_of_blk (Ext.blk e.h BP.out)
              repeat (go_big_quiet_step (fail))
              refine wpQuiet_nil ?_
              rintro w3 ⟨⟨_, hw3⟩, rfl⟩
              have X3 := Lib.hid (X0.out.trans hw3)
              clear L1 L2 hc C1 C2
              go_wp2_with fail
              refine (IH.out 2 _ _ _ _ w3 (by simp [ch]) ((at_ch H.out 2).ext X3.out) (nodup_ch HN.out 2) (reg_ch HR.out 2) HI'.out bl bmx bb bmy).mono ?_
              rintro e w5 ⟨rfl, t5, hp5, hat5, nd5, hb5, hr5, hi5, hm5⟩
              have FIN := Lib.hid (show AddSays (.node k v c0 c1 (.node k' (some y) d0 d1 d2 d3) c3) x l' r b' tp w (.returned (.tuple #[])) w5 from by
                have hkn : k ∉ bks (ch 2 (.node k v c0 c1 (.node k' (some y) d0 d1 d2 d3) c3)) := by have := HN.out; simp only [bks, List.nodup_cons, List.mem_append, List.mem_cons, ch] at this ⊢; grind
                refine add_put 2 t5 H.out HN.out HR.out HIN.out ?_ hat5 nd5 (fun j hj => ?_) hr5 hi5 ((Mod.of_ext X3.out).trans (hm5.mono (bks_ch 2))) ?_
                · rw [hm5.block k (Nat.lt_of_lt_of_le hkw X3.out.size) hkn, X3.out.block k hkw, H0.out, hp5]; rfl
                · rcases hb5 j hj with h | h
                  · exact .inl h
                  · exact .inr (Nat.le_trans X3.out.size h)
                · intro j hj _ hno
                  rw [hm5.block j (Nat.lt_of_lt_of_le (H.out.lt j hj) X3.out.size) hno]; exact X3.out.block j (H.out.lt j hj))
              clear hp5 hat5 nd5 hb5 hr5 hi5 hm5
              go_wp2
              exact bodyPost_ret (v := .tuple #[]) (by simp [results, Tryd.results54, go_sem]) rfl FIN.out
        · obtain ⟨el, er, eb, et, hin'⟩ := HV.out; subst el er eb et
          have HI' := Lib.hid hin'; clear HV hin'
          rcases c3 with _ | ⟨k', u, d0, d1, d2, d3⟩
          · have C1 := cell_of_blk (show w.heap[k]? = some (.cells #[iv v, ptr c0, ptr c1, ptr c2, .pointer none] 105 (0, 0)) from H0.out)
            have n1 : k ≠ w.heap.size := by omega
            have n2 : k ≠ w.heap.size + 1 := by omega
            clear C0
            go_wp2
            refine bodyPost_ret (v := .tuple #[]) (by simp [results, Tryd.results54, go_sem]) rfl ?_
            have X0 := fun W : World => ((Ext.refl W).alloc (.cells #[fl (I x.1), fl (I x.2.1)] 64)).alloc (.cells #[iv (some x), .pointer none, .pointer none, .pointer none, .pointer none] 105)
            have B1 := blk_new ((w.setCell ⟨k, 4, none⟩ (.pointer (some ⟨w.heap.size + 1, 0, none⟩))).alloc (.cells #[fl (I x.1), fl (I x.2.1)] 64)) (.cells #[iv (some x), .pointer none, .pointer none, .pointer none, .pointer none] 105)
            rw [show ((w.setCell ⟨k, 4, none⟩ (.pointer (some ⟨w.heap.size + 1, 0, none⟩))).alloc (.cells #[fl (I x.1), fl (I x.2.1)] 64)).heap.size = w.heap.size + 1 by simp] at B1
            refine add_put 3 (.node (w.heap.size + 1) (some x) .nil .nil .nil .nil) H.out HN.out HR.out HIN.out (blk_old (blk_old (by rw [blk_setCell H0.out]; rfl) _) _) ⟨B1, trivial, trivial, trivial, trivial⟩ (by simp [bks]) (by simp [bks]) ⟨fun y hy => ?_, trivial, trivial, trivial, trivial⟩ (by simp [its, nds, ch]) ((Mod.set ⟨k, 4, none⟩ _ (by simp [bks])).trans (Mod.of_ext (X0 _))) ?_
            · simp [its, nds] at hy; subst hy; exact HI'.out
            · intro j hj hk _
              exact ((X0 _).block j (by rw [size_setCell]; exact H.out.lt j hj)).trans (blk_setCell_ne hk _ _)
          · rcases u with _ | y
            · have C1 := cell_of_blk (show w.heap[k]? = some (.cells #[iv v, ptr c0, ptr c1, ptr c2, .pointer (some ⟨k', 0, none⟩)] 105 (0, 0)) from H0.out)
              have HC := at_ch H.out 3
              have h0' : w.heap[k']? = some (.cells #[.nilIface, ptr d0, ptr d1, ptr d2, ptr d3] 105 (0, 0)) := HC.1
              have C2 := cell_of_blk h0'
              have F2 := free_of_blk h0'
              have hkw' := (Array.getElem?_eq_some_iff.1 h0').1
              have hkk : k' ≠ k := by have := HN.out; simp only [bks, List.nodup_cons, List.mem_append, List.mem_cons] at this; grind
              have n1 : k ≠ w.heap.size := by omega
              have n2 : k' ≠ w.heap.size := by omega
              have HC := Lib.hid HC; have H0' := Lib.hid h0'
              clear C0 h0'
              go_wp2
              refine bodyPost_ret (v := .tuple #[]) (by simp [results, Tryd.results54, go_sem]) rfl ?_
              have X0 := fun W : World => (Ext.refl W).alloc (.cells #[fl (I x.1), fl (I x.2.1)] 64)
              have hnc := nodup_ch HN.out 3
              have hrc := reg_ch HR.out 3
              have hn2 := hnc
              simp only [ch, bks, List.nodup_cons, List.mem_append] at hn2
              have oth : ∀ j, j < w.heap.size → j ≠ k' → ((w.setCell ⟨k', 0, none⟩ (.iface 25 (.agg #[.int .i64 x.1, .int .i64 x.2.1, .int .i64 x.2.2]))).alloc (.cells #[fl (I x.1), fl (I x.2.1)] 64)).heap[j]? = w.heap[j]? := fun j hj hk =>
                ((X0 _).block j (by rw [size_setCell]; exact hj)).trans (blk_setCell_ne hk _ _)
              have g : ∀ d : Tr, At w d → k' ∉ bks d → At _ d := fun d hd hm => hd.frame fun j hj => oth j (hd.lt j hj) (fun e => hm (e ▸ hj))
              refine add_put 3 (.node k' (some x) d0 d1 d2 d3) H.out HN.out HR.out HIN.out ((oth k hkw (Ne.symm hkk)).trans H0.out) ⟨blk_old (by rw [blk_setCell H0'.out]; rfl) _, g d0 HC.out.2.1 (by grind), g d1 HC.out.2.2.1 (by grind), g d2 HC.out.2.2.2.1 (by grind), g d3 HC.out.2.2.2.2 (by grind)⟩ hnc (fun j hj => .inl hj) ⟨fun y hy => ?_, hrc.2⟩ (by simp [its_node, ch]) ((Mod.set ⟨k', 0, none⟩ _ (bks_ch 3 k' (by simp [ch, bks]))).trans (Mod.of_ext (X0 _))) ?_
              · rw [its_node] at hy
                rcases List.mem_append.1 hy with h | h
                · simp at h; subst h; exact HI'.out
                · exact reg_its hrc y (by simp only [ch, its_node]; simpa using h)
              · intro j hj hk hno
                exact oth j (H.out.lt j hj) (fun e => hno (by simp [ch, bks, e]))
            · have C1 := cell_of_blk (show w.heap[k]? = some (.cells #[iv v, ptr c0, ptr c1, ptr c2, .pointer (some ⟨k', 0, none⟩)] 105 (0, 0)) from H0.out)
              have HC := at_ch H.out 3
              have h0' : w.heap[k']? = some (.cells #[.iface 25 (.agg #[.int .i64 y.1, .int .i64 y.2.1, .int .i64 y.2.2]), ptr d0, ptr d1, ptr d2, ptr d3] 105 (0, 0)) := HC.1
              have C2 := cell_of_blk h0'
              have hkw' := (Array.getElem?_eq_some_iff.1 h0').1
              have n1 : k ≠ w.heap.size := by omega
              have n2 : k' ≠ w.heap.size := by omega
              have BK := Lib.hid (blk_old H0.out (.cells #[fl (I x.1), fl (I x.2.1)] 64))
              have BP := Lib.hid (blk_new w (.cells #[fl (I x.1), fl (I x.2.1)] 64))
              have X0 := Lib.hid ((Ext.refl w).alloc (.cells #[fl (I x.1), fl (I x.2.1)] 64))
              clear C0 h0' HC
              go_wp2_with fail
              generalize (w.alloc (.cells #[fl (I x.1), fl (I x.2.1)] 64)) = wb at *
              refine region_ext_tail 13 (by kernel_rfl) (by kernel_rfl) (fun hc => ?_)
              simp only [List.take_succ_cons, List.take_zero, List.drop_succ_cons, List.drop_zero]
              have L1 := fun e : Later wb => cell_of_blk (Ext.blk e.h (show wb.heap[k]? = some (.cells #[iv v, ptr c0, ptr c1, ptr c2, .pointer (some ⟨k', 0, none⟩)] 105 (0, 0)) from BK.out))
              have L2 := fun e : Later wb => cell_of_blk (Ext.blk e.h BP.out)
              repeat (go_big_quiet_step (fail))
              refine wpQuiet_nil ?_
              rintro w3 ⟨⟨_, hw3⟩, rfl⟩
              have X3 := Lib.hid (X0.out.trans hw3)
              clear L1 L2 hc C1 C2
              go_wp2_with fail
              refine (IH.out 3 _ _ _ _ w3 (by simp [ch]) ((at_ch H.out 3).ext X3.out) (nodup_ch HN.out 3) (reg_ch HR.out 3) HI'.out bmx br bb bmy).mono ?_
              rintro e w5 ⟨rfl, t5, hp5, hat5, nd5, hb5, hr5, hi5, hm5⟩
              have FIN := Lib.hid (show AddSays (.node k v c0 c1 c2 (.node k' (some y) d0 d1 d2 d3)) x l r' b' tp w (.returned (.tuple #[])) w5 from by
                have hkn : k ∉ bks (ch 3 (.node k v c0 c1 c2 (.node k' (some y) d0 d1 d2 d3))) := by have := HN.out; simp only [bks, List.nodup_cons, List.mem_append, List.mem_cons, ch] at this ⊢; grind
                refine add_put 3 t5 H.out HN.out HR.out HIN.out ?_ hat5 nd5 (fun j hj => ?_) hr5 hi5 ((Mod.of_ext X3.out).trans (hm5.mono (bks_ch 3))) ?_
                · rw [hm5.block k (Nat.lt_of_lt_of_le hkw X3.out.size) hkn, X3.out.block k hkw, H0.out, hp5]; rfl
                · rcases hb5 j hj with h | h
                  · exact .inl h
                  · exact .inr (Nat.le_trans X3.out.size h)
                · intro j hj _ hno
                  rw [hm5.block j (Nat.lt_of_lt_of_le (H.out.lt j hj) X3.out.size) hno]; exact X3.out.block j (H.out.lt j hj))
              clear hp5 hat5 nd5 hb5 hr5 hi5 hm5
              go_wp2
              exact bodyPost_ret (v := .tuple #[]) (by simp [results, Tryd.results54, go_sem]) rfl FIN.out

end Go.Proofs.YtmmmknmncdlopaaDoor
