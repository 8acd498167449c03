/- Taking the item of a node out: the contract of removeNode. No condition. -/
import Derived.Test.YtmmmknmncdlopaaDoorQuadD
namespace Go.Proofs.YtmmmknmncdlopaaDoor
open Go.ChangeShapes Go.WideShapes Go.ChangeAt Go.RowKit
open Go.Proofs.YtmmmknmncdlopaaDoor.F

/-- A node without its item. -/
def clr : Tr → Tr
  | .nil => .nil
  | .node k _ c0 c1 c2 c3 => .node k none c0 c1 c2 c3
/-- A node without children. -/
def leaf : Tr → Prop
  | .nil => True
  | .node _ _ c0 c1 c2 c3 => c0 = .nil ∧ c1 = .nil ∧ c2 = .nil ∧ c3 = .nil
/-- What removeNode leaves. -/
def RemSays (t : Tr) (l r b tp : Nat) (w : World) (e : Ending) (w' : World) : Prop :=
  (e = .returned (.bool true) ∧ leaf t ∧ w' = w) ∨ (e = .returned (.bool false) ∧ ∃ t', ptr t' = ptr t ∧ At w' t' ∧ (bks t').Nodup ∧ (∀ j ∈ bks t', j ∈ bks t) ∧ Reg t' l r b tp ∧ (its t').Perm (its t) ∧ Mod (bks t) w w')

theorem ptr_setv (i : Nat) (c : Tr) (k : Nat) (v : Option T3) (c0 c1 c2 c3 : Tr) : ptr (setc i c (.node k v c0 c1 c2 c3)) = .pointer (some ⟨k, 0, none⟩) := by
  match i with
  | 0 => rfl
  | 1 => rfl
  | 2 => rfl
  | i + 3 => rfl
theorem bks_clr (t : Tr) : bks (clr t) = bks t := by cases t <;> rfl
theorem clr_reg {t : Tr} {l r b tp : Nat} (h : Reg t l r b tp) : Reg (clr t) l r b tp := by
  cases t with
  | nil => trivial
  | node k v c0 c1 c2 c3 =>
    refine ⟨fun x hx => h.1 x ?_, h.2⟩
    rw [its_node] at hx ⊢
    exact List.mem_append.2 (.inr (by simpa using hx))
theorem its_setv (i : Nat) (c : Tr) (k : Nat) (u : Option T3) (c0 c1 c2 c3 : Tr) : its (setc i c (.node k u c0 c1 c2 c3)) = u.toList ++ its (setc i c (.node k none c0 c1 c2 c3)) := by
  match i with
  | 0 => simp [its_node, setc]
  | 1 => simp [its_node, setc]
  | 2 => simp [its_node, setc]
  | i + 3 => simp [its_node, setc]
theorem bks_setv (i : Nat) (c : Tr) (k : Nat) (u v : Option T3) (c0 c1 c2 c3 : Tr) : bks (setc i c (.node k u c0 c1 c2 c3)) = bks (setc i c (.node k v c0 c1 c2 c3)) := by
  match i with
  | 0 => rfl
  | 1 => rfl
  | 2 => rfl
  | i + 3 => rfl
theorem at_setv {w w' : World} {k : Nat} {v u : Option T3} {c0 c1 c2 c3 : Tr} {i : Nat} {c : Tr} (hat : At w (.node k v c0 c1 c2 c3)) (nd : (bks (.node k v c0 c1 c2 c3)).Nodup)
    (hk : w'.heap[k]? = some (.cells ((#[iv u, ptr c0, ptr c1, ptr c2, ptr c3] : Array Value).setIfInBounds (1 + min i 3) (ptr c)) 105 (0, 0))) (hc : At w' c)
    (hoth : ∀ j ∈ bks (.node k v c0 c1 c2 c3), j ≠ k → j ∉ bks (ch i (.node k v c0 c1 c2 c3)) → w'.heap[j]? = w.heap[j]?) : At w' (setc i c (.node k u c0 c1 c2 c3)) := by
  have h0 := hat.1
  have e1 : (w.setCell ⟨k, 0, none⟩ (iv u)).heap[k]? = some (.cells #[iv u, ptr c0, ptr c1, ptr c2, ptr c3] 105 (0, 0)) := by rw [blk_setCell h0]; rfl
  have hn : k ∉ bks c0 ∧ k ∉ bks c1 ∧ k ∉ bks c2 ∧ k ∉ bks c3 := by simp only [bks, List.nodup_cons, List.mem_append] at nd; grind
  have g : ∀ d : Tr, At w d → k ∉ bks d → At (w.setCell ⟨k, 0, none⟩ (iv u)) d := fun d hd hm => hd.frame fun j hj => blk_setCell_ne (b := k) (fun e => hm (e ▸ hj)) _ _
  refine at_setc (w := w.setCell ⟨k, 0, none⟩ (iv u)) ⟨e1, g _ hat.2.1 hn.1, g _ hat.2.2.1 hn.2.1, g _ hat.2.2.2.1 hn.2.2.1, g _ hat.2.2.2.2 hn.2.2.2⟩ nd hk hc fun j hj hk2 hno => ?_
  rw [blk_setCell_ne (b := k) hk2]
  refine hoth j hj hk2 fun h => hno ?_
  match i with
  | 0 => exact h
  | 1 => exact h
  | 2 => exact h
  | i + 3 => exact h
theorem rem_put {w w' : World} {k : Nat} {c0 c1 c2 c3 : Tr} {l r b tp : Nat} (i : Nat) (u : Option T3) (c : Tr) (hat : At w (.node k none c0 c1 c2 c3)) (nd : (bks (.node k none c0 c1 c2 c3)).Nodup) (hreg : Reg (.node k none c0 c1 c2 c3) l r b tp)
    (hk : w'.heap[k]? = some (.cells ((#[iv u, ptr c0, ptr c1, ptr c2, ptr c3] : Array Value).setIfInBounds (1 + min i 3) (ptr c)) 105 (0, 0))) (hc : At w' c) (ndc : (bks c).Nodup)
    (hb : ∀ j ∈ bks c, j ∈ bks (ch i (.node k none c0 c1 c2 c3))) (hr : Reg c (rl i l r) (rr i l r) (rb i b tp) (rt i b tp)) (hp : (u.toList ++ its c).Perm (its (ch i (.node k none c0 c1 c2 c3))))
    (hm : Mod (bks (.node k none c0 c1 c2 c3)) w w') (hoth : ∀ j ∈ bks (.node k none c0 c1 c2 c3), j ≠ k → j ∉ bks (ch i (.node k none c0 c1 c2 c3)) → w'.heap[j]? = w.heap[j]?) :
    RemSays (.node k none c0 c1 c2 c3) l r b tp w (.returned (.bool false)) w' := by
  have hne : (Tr.node k none c0 c1 c2 c3) ≠ .nil := by simp
  obtain ⟨A, B, e1, e2⟩ := its_append (.node k none c0 c1 c2 c3) i c
  replace e2 := e2 hne
  obtain ⟨C, D, f1, f2⟩ := bks_append (.node k none c0 c1 c2 c3) i c hne
  have hperm : (its (setc i c (.node k u c0 c1 c2 c3))).Perm (its (.node k none c0 c1 c2 c3)) := by
    rw [its_setv, e1, e2]
    refine List.Perm.trans ?_ (List.Perm.append_left A (List.Perm.append_right B hp))
    rw [← List.append_assoc, ← List.append_assoc, ← List.append_assoc, ← List.append_assoc]
    exact List.Perm.append_right B (List.Perm.append_right _ List.perm_append_comm)
  have hu : ∀ x ∈ u.toList, x ∈ its (.node k none c0 c1 c2 c3) := fun x hx => by
    rw [e1]; exact List.mem_append.2 (.inr (List.mem_append.2 (.inl (hp.mem_iff.1 (List.mem_append.2 (.inl hx))))))
  have hreg' : Reg (.node k u c0 c1 c2 c3) l r b tp := ⟨fun x hx => hreg.1 x (by
    rw [its_node] at hx
    rcases List.mem_append.1 hx with h | h
    · exact hu x h
    · rw [its_node]; exact List.mem_append.2 (.inr h)), hreg.2⟩
  refine .inr ⟨rfl, setc i c (.node k u c0 c1 c2 c3), ptr_setv .., at_setv hat nd hk hc hoth, ?_, ?_, reg_setc hreg' hr ?_, hperm, hm⟩
  · rw [bks_setv (v := none), f2]
    have h1 := nd
    rw [f1] at h1
    exact nodup_mid h1 ndc fun j hj => .inl (hb j hj)
  · intro j hj
    rw [bks_setv (v := none), f2] at hj
    rw [f1]
    simp only [List.mem_append] at hj ⊢
    rcases hj with h | h | h
    · exact .inl h
    · exact .inr (.inl (hb j h))
    · exact .inr (.inr h)
  · intro y hy
    exact hreg.1 y (hperm.mem_iff.1 hy)

set_option maxRecDepth 8000 in
set_option maxHeartbeats 6400000 in
theorem rem_any : ∀ (t : Tr) (l r b tp : Nat) (w : World), t ≠ .nil → At w (clr t) → (bks t).Nodup → Reg (clr t) l r b tp →
    Calls Tryd.prog 52 #[ptr t] w (RemSays (clr t) l r b tp w) := by
  intro t
  induction t with
  | nil => intro _ _ _ _ _ h; exact absurd rfl h
  | node k v c0 c1 c2 c3 ih0 ih1 ih2 ih3 =>
    intro l r b tp w _ hat nd hreg
    simp only [clr] at hat hreg ⊢
    have IH := Lib.hid (show ∀ i, ∀ (l r b tp : Nat) (w : World), ch i (.node k none c0 c1 c2 c3) ≠ .nil → At w (clr (ch i (.node k none c0 c1 c2 c3))) → (bks (ch i (.node k none c0 c1 c2 c3))).Nodup → Reg (clr (ch i (.node k none c0 c1 c2 c3))) l r b tp →
        Calls Tryd.prog 52 #[ptr (ch i (.node k none c0 c1 c2 c3))] w (RemSays (clr (ch i (.node k none c0 c1 c2 c3))) l r b tp w) from fun i => by
      match i with
      | 0 => exact ih0
      | 1 => exact ih1
      | 2 => exact ih2
      | i + 3 => exact ih3)
    have nd : (bks (.node k none c0 c1 c2 c3)).Nodup := nd
    have h0 := hat.1
    have C0 := cell_of_blk h0
    have F0 := free_of_blk h0
    have hkw := (Array.getElem?_eq_some_iff.1 h0).1
    have H := Lib.hid hat
    have HN := Lib.hid nd; have HR := Lib.hid hreg
    have H0 := Lib.hid h0
    clear hat h0 nd hreg ih0 ih1 ih2 ih3
    change Calls _ _ #[.pointer (some ⟨k, 0, none⟩)] _ _
    go_enter Tryd.func52, Tryd.ntmps52
    rcases c0 with _ | ⟨k', u, d0, d1, d2, d3⟩
    · rcases c1 with _ | ⟨k', u, d0, d1, d2, d3⟩
      · rcases c2 with _ | ⟨k', u, d0, d1, d2, d3⟩
        · rcases c3 with _ | ⟨k', u, d0, d1, d2, d3⟩
          · have C1 := cell_of_blk (show w.heap[k]? = some (.cells #[.nilIface, .pointer none, .pointer none, .pointer none, .pointer none] 105 (0, 0)) from H0.out)
            clear C0
            go_wp2
            exact bodyPost_ret (v := .bool true) (by simp [results, Tryd.results52, go_sem]) rfl (.inl ⟨rfl, ⟨rfl, rfl, rfl, rfl⟩, rfl⟩)
          · have C1 := cell_of_blk (show w.heap[k]? = some (.cells #[.nilIface, .pointer none, .pointer none, .pointer none, .pointer (some ⟨k', 0, none⟩)] 105 (0, 0)) from H0.out)
            have HC := at_ch H.out 3
            have hkk : k' ≠ k := by have := HN.out; simp only [bks, List.nodup_cons, List.mem_append, List.mem_cons] at this; grind
            have hkk2 : k ≠ k' := Ne.symm hkk
            have h0' : w.heap[k']? = some (.cells #[iv u, ptr d0, ptr d1, ptr d2, ptr d3] 105 (0, 0)) := HC.1
            have H0' := Lib.hid h0'
            have hn := Lib.hid (show k' ∉ bks d0 ∧ k' ∉ bks d1 ∧ k' ∉ bks d2 ∧ k' ∉ bks d3 ∧ k ∉ bks d0 ∧ k ∉ bks d1 ∧ k ∉ bks d2 ∧ k ∉ bks d3 from by have := HN.out; simp only [bks, List.nodup_cons, List.nodup_append, List.mem_append, List.mem_cons] at this; grind)
            have HC := Lib.hid HC
            have HP := Lib.hid (show ∀ W : World, (∀ j, j ≠ k → j ≠ k' → W.heap[j]? = w.heap[j]?) → W.heap[k']? = some (.cells #[.nilIface, ptr d0, ptr d1, ptr d2, ptr d3] 105 (0, 0)) → At W (.node k' none d0 d1 d2 d3) from fun W hj hk => ⟨hk, HC.out.2.1.frame fun j h => hj j (fun e => hn.out.2.2.2.2.1 (e ▸ h)) (fun e => hn.out.1 (e ▸ h)), HC.out.2.2.1.frame fun j h => hj j (fun e => hn.out.2.2.2.2.2.1 (e ▸ h)) (fun e => hn.out.2.1 (e ▸ h)), HC.out.2.2.2.1.frame fun j h => hj j (fun e => hn.out.2.2.2.2.2.2.1 (e ▸ h)) (fun e => hn.out.2.2.1 (e ▸ h)), HC.out.2.2.2.2.frame fun j h => hj j (fun e => hn.out.2.2.2.2.2.2.2 (e ▸ h)) (fun e => hn.out.2.2.2.1 (e ▸ h))⟩)
            have hkw' := (Array.getElem?_eq_some_iff.1 h0').1
            have hnk := nodup_ch HN.out 3
            have HNK := Lib.hid hnk; clear hnk
            have HRK := Lib.hid (reg_ch HR.out 3)
            clear C0
            rcases u with _ | y
            · have C2 := cell_of_blk (show w.heap[k']? = some (.cells #[.nilIface, ptr d0, ptr d1, ptr d2, ptr d3] 105 (0, 0)) from H0'.out)
              have F2 := free_of_blk H0'.out
              clear h0'
              have E1 := Lib.hid (show ((w.setCell ⟨k, 0, none⟩ .nilIface).setCell ⟨k', 0, none⟩ .nilIface).heap[k]? = some (.cells #[iv none, .pointer none, .pointer none, .pointer none, .pointer (some ⟨k', 0, none⟩)] 105 (0, 0)) from by rw [blk_setCell_ne (b := k') hkk2, blk_setCell H0.out]; rfl)
              have E2 := Lib.hid (show ((w.setCell ⟨k, 0, none⟩ .nilIface).setCell ⟨k', 0, none⟩ .nilIface).heap[k']? = some (.cells #[.nilIface, ptr d0, ptr d1, ptr d2, ptr d3] 105 (0, 0)) from by rw [blk_setCell ((blk_setCell_ne (b := k) hkk _ _).trans H0'.out)]; rfl)
              have E3 := Lib.hid (show ∀ j, j ≠ k → j ≠ k' → ((w.setCell ⟨k, 0, none⟩ .nilIface).setCell ⟨k', 0, none⟩ .nilIface).heap[j]? = w.heap[j]? from fun j h1 h2 => by rw [blk_setCell_ne (b := k') h2, blk_setCell_ne (b := k) h1])
              have M1 := Lib.hid (show Mod (bks (.node k none .nil .nil .nil (.node k' none d0 d1 d2 d3))) w ((w.setCell ⟨k, 0, none⟩ .nilIface).setCell ⟨k', 0, none⟩ .nilIface) from (Mod.set ⟨k, 0, none⟩ _ (by simp [bks])).trans (Mod.set ⟨k', 0, none⟩ _ (bks_ch 3 k' (by simp [ch, bks]))))
              go_wp2_with fail
              refine (IH.out 3 _ _ _ _ _ (by simp [ch]) (HP.out _ E3.out E2.out) HNK.out (clr_reg HRK.out)).mono ?_
              rintro e w5 (⟨rfl, hl, rfl⟩ | ⟨rfl, t5, hp5, hat5, nd5, hb5, hr5, hi5, hm5⟩)
              · have hl := Lib.hid hl
                have C3 := cell_of_blk E1.out
                have F3 := free_of_blk E1.out
                generalize hW : ((w.setCell ⟨k, 0, none⟩ .nilIface).setCell ⟨k', 0, none⟩ .nilIface) = wb at *
                have HW := Lib.hid hW; clear hW
                clear C1 C2 F2
                go_wp2
                refine bodyPost_ret (v := .bool false) (by simp [results, Tryd.results52, go_sem]) rfl ?_
                refine rem_put 3 none .nil H.out HN.out HR.out (by rw [blk_setCell E1.out]; rfl) trivial (by simp [bks]) (by simp [bks]) trivial ?_ (M1.out.trans (Mod.set _ _ (by simp [bks]))) ?_
                · obtain ⟨rfl, rfl, rfl, rfl⟩ := hl.out; simp [its_node, ch, its, nds]
                · intro j hj h1 h2
                  have h3 : j ≠ k' := fun e => h2 (by simp [ch, bks, e])
                  exact (blk_setCell_ne (b := k) h1 _ _).trans (E3.out j h1 h3)
              · have FIN := Lib.hid (show RemSays (.node k none .nil .nil .nil (.node k' none d0 d1 d2 d3)) l r b tp w (.returned (.bool false)) w5 from by
                  have hkn : k ∉ bks (ch 3 (.node k none .nil .nil .nil (.node k' none d0 d1 d2 d3))) := by have := HN.out; simp only [bks, List.nodup_cons, List.mem_append, List.mem_cons, ch] at this ⊢; grind
                  refine rem_put 3 none t5 H.out HN.out HR.out ?_ hat5 nd5 hb5 hr5 ?_ (M1.out.trans (hm5.mono (fun j h => bks_ch (t := (.node k none .nil .nil .nil (.node k' none d0 d1 d2 d3))) 3 j h))) ?_
                  · rw [hm5.block k (Nat.lt_of_lt_of_le hkw M1.out.size) hkn, E1.out, hp5]; rfl
                  · refine (List.Perm.append_left _ hi5).trans ?_; simp [its_node, ch, clr]
                  · intro j hj h1 h2
                    have h3 : j ≠ k' := fun e => h2 (by simp [ch, bks, e])
                    rw [hm5.block j (Nat.lt_of_lt_of_le (H.out.lt j hj) M1.out.size) h2]; exact E3.out j h1 h3)
                clear hp5 hat5 nd5 hb5 hr5 hi5 hm5
                go_wp2
                exact bodyPost_ret (v := .bool false) (by simp [results, Tryd.results52, go_sem]) rfl FIN.out
            · have C2 := cell_of_blk (show w.heap[k']? = some (.cells #[(.iface 25 (.agg #[.int .i64 y.1, .int .i64 y.2.1, .int .i64 y.2.2])), ptr d0, ptr d1, ptr d2, ptr d3] 105 (0, 0)) from H0'.out)
              have F2 := free_of_blk H0'.out
              clear h0'
              have E1 := Lib.hid (show ((w.setCell ⟨k, 0, none⟩ (.iface 25 (.agg #[.int .i64 y.1, .int .i64 y.2.1, .int .i64 y.2.2]))).setCell ⟨k', 0, none⟩ .nilIface).heap[k]? = some (.cells #[iv (some y), .pointer none, .pointer none, .pointer none, .pointer (some ⟨k', 0, none⟩)] 105 (0, 0)) from by rw [blk_setCell_ne (b := k') hkk2, blk_setCell H0.out]; rfl)
              have E2 := Lib.hid (show ((w.setCell ⟨k, 0, none⟩ (.iface 25 (.agg #[.int .i64 y.1, .int .i64 y.2.1, .int .i64 y.2.2]))).setCell ⟨k', 0, none⟩ .nilIface).heap[k']? = some (.cells #[.nilIface, ptr d0, ptr d1, ptr d2, ptr d3] 105 (0, 0)) from by rw [blk_setCell ((blk_setCell_ne (b := k) hkk _ _).trans H0'.out)]; rfl)
              have E3 := Lib.hid (show ∀ j, j ≠ k → j ≠ k' → ((w.setCell ⟨k, 0, none⟩ (.iface 25 (.agg #[.int .i64 y.1, .int .i64 y.2.1, .int .i64 y.2.2]))).setCell ⟨k', 0, none⟩ .nilIface).heap[j]? = w.heap[j]? from fun j h1 h2 => by rw [blk_setCell_ne (b := k') h2, blk_setCell_ne (b := k) h1])
              have M1 := Lib.hid (show Mod (bks (.node k none .nil .nil .nil (.node k' (some y) d0 d1 d2 d3))) w ((w.setCell ⟨k, 0, none⟩ (.iface 25 (.agg #[.int .i64 y.1, .int .i64 y.2.1, .int .i64 y.2.2]))).setCell ⟨k', 0, none⟩ .nilIface) from (Mod.set ⟨k, 0, none⟩ _ (by simp [bks])).trans (Mod.set ⟨k', 0, none⟩ _ (bks_ch 3 k' (by simp [ch, bks]))))
              go_wp2_with fail
              refine (IH.out 3 _ _ _ _ _ (by simp [ch]) (HP.out _ E3.out E2.out) HNK.out (clr_reg HRK.out)).mono ?_
              rintro e w5 (⟨rfl, hl, rfl⟩ | ⟨rfl, t5, hp5, hat5, nd5, hb5, hr5, hi5, hm5⟩)
              · have hl := Lib.hid hl
                have C3 := cell_of_blk E1.out
                have F3 := free_of_blk E1.out
                generalize hW : ((w.setCell ⟨k, 0, none⟩ (.iface 25 (.agg #[.int .i64 y.1, .int .i64 y.2.1, .int .i64 y.2.2]))).setCell ⟨k', 0, none⟩ .nilIface) = wb at *
                have HW := Lib.hid hW; clear hW
                clear C1 C2 F2
                go_wp2
                refine bodyPost_ret (v := .bool false) (by simp [results, Tryd.results52, go_sem]) rfl ?_
                refine rem_put 3 (some y) .nil H.out HN.out HR.out (by rw [blk_setCell E1.out]; rfl) trivial (by simp [bks]) (by simp [bks]) trivial ?_ (M1.out.trans (Mod.set _ _ (by simp [bks]))) ?_
                · obtain ⟨rfl, rfl, rfl, rfl⟩ := hl.out; simp [its_node, ch, its, nds]
                · intro j hj h1 h2
                  have h3 : j ≠ k' := fun e => h2 (by simp [ch, bks, e])
                  exact (blk_setCell_ne (b := k) h1 _ _).trans (E3.out j h1 h3)
              · have FIN := Lib.hid (show RemSays (.node k none .nil .nil .nil (.node k' (some y) d0 d1 d2 d3)) l r b tp w (.returned (.bool false)) w5 from by
                  have hkn : k ∉ bks (ch 3 (.node k none .nil .nil .nil (.node k' (some y) d0 d1 d2 d3))) := by have := HN.out; simp only [bks, List.nodup_cons, List.mem_append, List.mem_cons, ch] at this ⊢; grind
                  refine rem_put 3 (some y) t5 H.out HN.out HR.out ?_ hat5 nd5 hb5 hr5 ?_ (M1.out.trans (hm5.mono (fun j h => bks_ch (t := (.node k none .nil .nil .nil (.node k' (some y) d0 d1 d2 d3))) 3 j h))) ?_
                  · rw [hm5.block k (Nat.lt_of_lt_of_le hkw M1.out.size) hkn, E1.out, hp5]; rfl
                  · refine (List.Perm.append_left _ hi5).trans ?_; simp [its_node, ch, clr]
                  · intro j hj h1 h2
                    have h3 : j ≠ k' := fun e => h2 (by simp [ch, bks, e])
                    rw [hm5.block j (Nat.lt_of_lt_of_le (H.out.lt j hj) M1.out.size) h2]; exact E3.out j h1 h3)
                clear hp5 hat5 nd5 hb5 hr5 hi5 hm5
                go_wp2
                exact bodyPost_ret (v := .bool false) (by simp [results, Tryd.results52, go_sem]) rfl FIN.out
        · have C1 := cell_of_blk (show w.heap[k]? = some (.cells #[.nilIface, .pointer none, .pointer none, .pointer (some ⟨k', 0, none⟩), ptr c3] 105 (0, 0)) from H0.out)
          have HC := at_ch H.out 2
          have hkk : k' ≠ k := by have := HN.out; simp only [bks, List.nodup_cons, List.mem_append, List.mem_cons] at this; grind
          have hkk2 : k ≠ k' := Ne.symm hkk
          have h0' : w.heap[k']? = some (.cells #[iv u, ptr d0, ptr d1, ptr d2, ptr d3] 105 (0, 0)) := HC.1
          have H0' := Lib.hid h0'
          have hn := Lib.hid (show k' ∉ bks d0 ∧ k' ∉ bks d1 ∧ k' ∉ bks d2 ∧ k' ∉ bks d3 ∧ k ∉ bks d0 ∧ k ∉ bks d1 ∧ k ∉ bks d2 ∧ k ∉ bks d3 from by have := HN.out; simp only [bks, List.nodup_cons, List.nodup_append, List.mem_append, List.mem_cons] at this; grind)
          have HC := Lib.hid HC
          have HP := Lib.hid (show ∀ W : World, (∀ j, j ≠ k → j ≠ k' → W.heap[j]? = w.heap[j]?) → W.heap[k']? = some (.cells #[.nilIface, ptr d0, ptr d1, ptr d2, ptr d3] 105 (0, 0)) → At W (.node k' none d0 d1 d2 d3) from fun W hj hk => ⟨hk, HC.out.2.1.frame fun j h => hj j (fun e => hn.out.2.2.2.2.1 (e ▸ h)) (fun e => hn.out.1 (e ▸ h)), HC.out.2.2.1.frame fun j h => hj j (fun e => hn.out.2.2.2.2.2.1 (e ▸ h)) (fun e => hn.out.2.1 (e ▸ h)), HC.out.2.2.2.1.frame fun j h => hj j (fun e => hn.out.2.2.2.2.2.2.1 (e ▸ h)) (fun e => hn.out.2.2.1 (e ▸ h)), HC.out.2.2.2.2.frame fun j h => hj j (fun e => hn.out.2.2.2.2.2.2.2 (e ▸ h)) (fun e => hn.out.2.2.2.1 (e ▸ h))⟩)
          have hkw' := (Array.getElem?_eq_some_iff.1 h0').1
          have hnk := nodup_ch HN.out 2
          have HNK := Lib.hid hnk; clear hnk
          have HRK := Lib.hid (reg_ch HR.out 2)
          clear C0
          rcases u with _ | y
          · have C2 := cell_of_blk (show w.heap[k']? = some (.cells #[.nilIface, ptr d0, ptr d1, ptr d2, ptr d3] 105 (0, 0)) from H0'.out)
            have F2 := free_of_blk H0'.out
            clear h0'
            have E1 := Lib.hid (show ((w.setCell ⟨k, 0, none⟩ .nilIface).setCell ⟨k', 0, none⟩ .nilIface).heap[k]? = some (.cells #[iv none, .pointer none, .pointer none, .pointer (some ⟨k', 0, none⟩), ptr c3] 105 (0, 0)) from by rw [blk_setCell_ne (b := k') hkk2, blk_setCell H0.out]; rfl)
            have E2 := Lib.hid (show ((w.setCell ⟨k, 0, none⟩ .nilIface).setCell ⟨k', 0, none⟩ .nilIface).heap[k']? = some (.cells #[.nilIface, ptr d0, ptr d1, ptr d2, ptr d3] 105 (0, 0)) from by rw [blk_setCell ((blk_setCell_ne (b := k) hkk _ _).trans H0'.out)]; rfl)
            have E3 := Lib.hid (show ∀ j, j ≠ k → j ≠ k' → ((w.setCell ⟨k, 0, none⟩ .nilIface).setCell ⟨k', 0, none⟩ .nilIface).heap[j]? = w.heap[j]? from fun j h1 h2 => by rw [blk_setCell_ne (b := k') h2, blk_setCell_ne (b := k) h1])
            have M1 := Lib.hid (show Mod (bks (.node k none .nil .nil (.node k' none d0 d1 d2 d3) c3)) w ((w.setCell ⟨k, 0, none⟩ .nilIface).setCell ⟨k', 0, none⟩ .nilIface) from (Mod.set ⟨k, 0, none⟩ _ (by simp [bks])).trans (Mod.set ⟨k', 0, none⟩ _ (bks_ch 2 k' (by simp [ch, bks]))))
            go_wp2_with fail
            refine (IH.out 2 _ _ _ _ _ (by simp [ch]) (HP.out _ E3.out E2.out) HNK.out (clr_reg HRK.out)).mono ?_
            rintro e w5 (⟨rfl, hl, rfl⟩ | ⟨rfl, t5, hp5, hat5, nd5, hb5, hr5, hi5, hm5⟩)
            · have hl := Lib.hid hl
              have C3 := cell_of_blk E1.out
              have F3 := free_of_blk E1.out
              generalize hW : ((w.setCell ⟨k, 0, none⟩ .nilIface).setCell ⟨k', 0, none⟩ .nilIface) = wb at *
              have HW := Lib.hid hW; clear hW
              clear C1 C2 F2
              go_wp2
              refine bodyPost_ret (v := .bool false) (by simp [results, Tryd.results52, go_sem]) rfl ?_
              refine rem_put 2 none .nil H.out HN.out HR.out (by rw [blk_setCell E1.out]; rfl) trivial (by simp [bks]) (by simp [bks]) trivial ?_ (M1.out.trans (Mod.set _ _ (by simp [bks]))) ?_
              · obtain ⟨rfl, rfl, rfl, rfl⟩ := hl.out; simp [its_node, ch, its, nds]
              · intro j hj h1 h2
                have h3 : j ≠ k' := fun e => h2 (by simp [ch, bks, e])
                exact (blk_setCell_ne (b := k) h1 _ _).trans (E3.out j h1 h3)
            · have FIN := Lib.hid (show RemSays (.node k none .nil .nil (.node k' none d0 d1 d2 d3) c3) l r b tp w (.returned (.bool false)) w5 from by
                have hkn : k ∉ bks (ch 2 (.node k none .nil .nil (.node k' none d0 d1 d2 d3) c3)) := by have := HN.out; simp only [bks, List.nodup_cons, List.mem_append, List.mem_cons, ch] at this ⊢; grind
                refine rem_put 2 none t5 H.out HN.out HR.out ?_ hat5 nd5 hb5 hr5 ?_ (M1.out.trans (hm5.mono (fun j h => bks_ch (t := (.node k none .nil .nil (.node k' none d0 d1 d2 d3) c3)) 2 j h))) ?_
                · rw [hm5.block k (Nat.lt_of_lt_of_le hkw M1.out.size) hkn, E1.out, hp5]; rfl
                · refine (List.Perm.append_left _ hi5).trans ?_; simp [its_node, ch, clr]
                · intro j hj h1 h2
                  have h3 : j ≠ k' := fun e => h2 (by simp [ch, bks, e])
                  rw [hm5.block j (Nat.lt_of_lt_of_le (H.out.lt j hj) M1.out.size) h2]; exact E3.out j h1 h3)
              clear hp5 hat5 nd5 hb5 hr5 hi5 hm5
              go_wp2
              exact bodyPost_ret (v := .bool false) (by simp [results, Tryd.results52, go_sem]) rfl FIN.out
          · have C2 := cell_of_blk (show w.heap[k']? = some (.cells #[(.iface 25 (.agg #[.int .i64 y.1, .int .i64 y.2.1, .int .i64 y.2.2])), ptr d0, ptr d1, ptr d2, ptr d3] 105 (0, 0)) from H0'.out)
            have F2 := free_of_blk H0'.out
            clear h0'
            have E1 := Lib.hid (show ((w.setCell ⟨k, 0, none⟩ (.iface 25 (.agg #[.int .i64 y.1, .int .i64 y.2.1, .int .i64 y.2.2]))).setCell ⟨k', 0, none⟩ .nilIface).heap[k]? = some (.cells #[iv (some y), .pointer none, .pointer none, .pointer (some ⟨k', 0, none⟩), ptr c3] 105 (0, 0)) from by rw [blk_setCell_ne (b := k') hkk2, blk_setCell H0.out]; rfl)
            have E2 := Lib.hid (show ((w.setCell ⟨k, 0, none⟩ (.iface 25 (.agg #[.int .i64 y.1, .int .i64 y.2.1, .int .i64 y.2.2]))).setCell ⟨k', 0, none⟩ .nilIface).heap[k']? = some (.cells #[.nilIface, ptr d0, ptr d1, ptr d2, ptr d3] 105 (0, 0)) from by rw [blk_setCell ((blk_setCell_ne (b := k) hkk _ _).trans H0'.out)]; rfl)
            have E3 := Lib.hid (show ∀ j, j ≠ k → j ≠ k' → ((w.setCell ⟨k, 0, none⟩ (.iface 25 (.agg #[.int .i64 y.1, .int .i64 y.2.1, .int .i64 y.2.2]))).setCell ⟨k', 0, none⟩ .nilIface).heap[j]? = w.heap[j]? from fun j h1 h2 => by rw [blk_setCell_ne (b := k') h2, blk_setCell_ne (b := k) h1])
            have M1 := Lib.hid (show Mod (bks (.node k none .nil .nil (.node k' (some y) d0 d1 d2 d3) c3)) w ((w.setCell ⟨k, 0, none⟩ (.iface 25 (.agg #[.int .i64 y.1, .int .i64 y.2.1, .int .i64 y.2.2]))).setCell ⟨k', 0, none⟩ .nilIface) from (Mod.set ⟨k, 0, none⟩ _ (by simp [bks])).trans (Mod.set ⟨k', 0, none⟩ _ (bks_ch 2 k' (by simp [ch, bks]))))
            go_wp2_with fail
            refine (IH.out 2 _ _ _ _ _ (by simp [ch]) (HP.out _ E3.out E2.out) HNK.out (clr_reg HRK.out)).mono ?_
            rintro e w5 (⟨rfl, hl, rfl⟩ | ⟨rfl, t5, hp5, hat5, nd5, hb5, hr5, hi5, hm5⟩)
            · have hl := Lib.hid hl
              have C3 := cell_of_blk E1.out
              have F3 := free_of_blk E1.out
              generalize hW : ((w.setCell ⟨k, 0, none⟩ (.iface 25 (.agg #[.int .i64 y.1, .int .i64 y.2.1, .int .i64 y.2.2]))).setCell ⟨k', 0, none⟩ .nilIface) = wb at *
              have HW := Lib.hid hW; clear hW
              clear C1 C2 F2
              go_wp2
              refine bodyPost_ret (v := .bool false) (by simp [results, Tryd.results52, go_sem]) rfl ?_
              refine rem_put 2 (some y) .nil H.out HN.out HR.out (by rw [blk_setCell E1.out]; rfl) trivial (by simp [bks]) (by simp [bks]) trivial ?_ (M1.out.trans (Mod.set _ _ (by simp [bks]))) ?_
              · obtain ⟨rfl, rfl, rfl, rfl⟩ := hl.out; simp [its_node, ch, its, nds]
              · intro j hj h1 h2
                have h3 : j ≠ k' := fun e => h2 (by simp [ch, bks, e])
                exact (blk_setCell_ne (b := k) h1 _ _).trans (E3.out j h1 h3)
            · have FIN := Lib.hid (show RemSays (.node k none .nil .nil (.node k' (some y) d0 d1 d2 d3) c3) l r b tp w (.returned (.bool false)) w5 from by
                have hkn : k ∉ bks (ch 2 (.node k none .nil .nil (.node k' (some y) d0 d1 d2 d3) c3)) := by have := HN.out; simp only [bks, List.nodup_cons, List.mem_append, List.mem_cons, ch] at this ⊢; grind
                refine rem_put 2 (some y) t5 H.out HN.out HR.out ?_ hat5 nd5 hb5 hr5 ?_ (M1.out.trans (hm5.mono (fun j h => bks_ch (t := (.node k none .nil .nil (.node k' (some y) d0 d1 d2 d3) c3)) 2 j h))) ?_
                · rw [hm5.block k (Nat.lt_of_lt_of_le hkw M1.out.size) hkn, E1.out, hp5]; rfl
                · refine (List.Perm.append_left _ hi5).trans ?_; simp [its_node, ch, clr]
                · intro j hj h1 h2
                  have h3 : j ≠ k' := fun e => h2 (by simp [ch, bks, e])
                  rw [hm5.block j (Nat.lt_of_lt_of_le (H.out.lt j hj) M1.out.size) h2]; exact E3.out j h1 h3)
              clear hp5 hat5 nd5 hb5 hr5 hi5 hm5
              go_wp2
              exact bodyPost_ret (v := .bool false) (by simp [results, Tryd.results52, go_sem]) rfl FIN.out
      · have C1 := cell_of_blk (show w.heap[k]? = some (.cells #[.nilIface, .pointer none, .pointer (some ⟨k', 0, none⟩), ptr c2, ptr c3] 105 (0, 0)) from H0.out)
        have HC := at_ch H.out 1
        have hkk : k' ≠ k := by have := HN.out; simp only [bks, List.nodup_cons, List.mem_append, List.mem_cons] at this; grind
        have hkk2 : k ≠ k' := Ne.symm hkk
        have h0' : w.heap[k']? = some (.cells #[iv u, ptr d0, ptr d1, ptr d2, ptr d3] 105 (0, 0)) := HC.1
        have H0' := Lib.hid h0'
        have hn := Lib.hid (show k' ∉ bks d0 ∧ k' ∉ bks d1 ∧ k' ∉ bks d2 ∧ k' ∉ bks d3 ∧ k ∉ bks d0 ∧ k ∉ bks d1 ∧ k ∉ bks d2 ∧ k ∉ bks d3 from by have := HN.out; simp only [bks, List.nodup_cons, List.nodup_append, List.mem_append, List.mem_cons] at this; grind)
        have HC := Lib.hid HC
        have HP := Lib.hid (show ∀ W : World, (∀ j, j ≠ k → j ≠ k' → W.heap[j]? = w.heap[j]?) → W.heap[k']? = some (.cells #[.nilIface, ptr d0, ptr d1, ptr d2, ptr d3] 105 (0, 0)) → At W (.node k' none d0 d1 d2 d3) from fun W hj hk => ⟨hk, HC.out.2.1.frame fun j h => hj j (fun e => hn.out.2.2.2.2.1 (e ▸ h)) (fun e => hn.out.1 (e ▸ h)), HC.out.2.2.1.frame fun j h => hj j (fun e => hn.out.2.2.2.2.2.1 (e ▸ h)) (fun e => hn.out.2.1 (e ▸ h)), HC.out.2.2.2.1.frame fun j h => hj j (fun e => hn.out.2.2.2.2.2.2.1 (e ▸ h)) (fun e => hn.out.2.2.1 (e ▸ h)), HC.out.2.2.2.2.frame fun j h => hj j (fun e => hn.out.2.2.2.2.2.2.2 (e ▸ h)) (fun e => hn.out.2.2.2.1 (e ▸ h))⟩)
        have hkw' := (Array.getElem?_eq_some_iff.1 h0').1
        have hnk := nodup_ch HN.out 1
        have HNK := Lib.hid hnk; clear hnk
        have HRK := Lib.hid (reg_ch HR.out 1)
        clear C0
        rcases u with _ | y
        · have C2 := cell_of_blk (show w.heap[k']? = some (.cells #[.nilIface, ptr d0, ptr d1, ptr d2, ptr d3] 105 (0, 0)) from H0'.out)
          have F2 := free_of_blk H0'.out
          clear h0'
          have E1 := Lib.hid (show ((w.setCell ⟨k, 0, none⟩ .nilIface).setCell ⟨k', 0, none⟩ .nilIface).heap[k]? = some (.cells #[iv none, .pointer none, .pointer (some ⟨k', 0, none⟩), ptr c2, ptr c3] 105 (0, 0)) from by rw [blk_setCell_ne (b := k') hkk2, blk_setCell H0.out]; rfl)
          have E2 := Lib.hid (show ((w.setCell ⟨k, 0, none⟩ .nilIface).setCell ⟨k', 0, none⟩ .nilIface).heap[k']? = some (.cells #[.nilIface, ptr d0, ptr d1, ptr d2, ptr d3] 105 (0, 0)) from by rw [blk_setCell ((blk_setCell_ne (b := k) hkk _ _).trans H0'.out)]; rfl)
          have E3 := Lib.hid (show ∀ j, j ≠ k → j ≠ k' → ((w.setCell ⟨k, 0, none⟩ .nilIface).setCell ⟨k', 0, none⟩ .nilIface).heap[j]? = w.heap[j]? from fun j h1 h2 => by rw [blk_setCell_ne (b := k') h2, blk_setCell_ne (b := k) h1])
          have M1 := Lib.hid (show Mod (bks (.node k none .nil (.node k' none d0 d1 d2 d3) c2 c3)) w ((w.setCell ⟨k, 0, none⟩ .nilIface).setCell ⟨k', 0, none⟩ .nilIface) from (Mod.set ⟨k, 0, none⟩ _ (by simp [bks])).trans (Mod.set ⟨k', 0, none⟩ _ (bks_ch 1 k' (by simp [ch, bks]))))
          go_wp2_with fail
          refine (IH.out 1 _ _ _ _ _ (by simp [ch]) (HP.out _ E3.out E2.out) HNK.out (clr_reg HRK.out)).mono ?_
          rintro e w5 (⟨rfl, hl, rfl⟩ | ⟨rfl, t5, hp5, hat5, nd5, hb5, hr5, hi5, hm5⟩)
          · have hl := Lib.hid hl
            have C3 := cell_of_blk E1.out
            have F3 := free_of_blk E1.out
            generalize hW : ((w.setCell ⟨k, 0, none⟩ .nilIface).setCell ⟨k', 0, none⟩ .nilIface) = wb at *
            have HW := Lib.hid hW; clear hW
            clear C1 C2 F2
            go_wp2
            refine bodyPost_ret (v := .bool false) (by simp [results, Tryd.results52, go_sem]) rfl ?_
            refine rem_put 1 none .nil H.out HN.out HR.out (by rw [blk_setCell E1.out]; rfl) trivial (by simp [bks]) (by simp [bks]) trivial ?_ (M1.out.trans (Mod.set _ _ (by simp [bks]))) ?_
            · obtain ⟨rfl, rfl, rfl, rfl⟩ := hl.out; simp [its_node, ch, its, nds]
            · intro j hj h1 h2
              have h3 : j ≠ k' := fun e => h2 (by simp [ch, bks, e])
              exact (blk_setCell_ne (b := k) h1 _ _).trans (E3.out j h1 h3)
          · have FIN := Lib.hid (show RemSays (.node k none .nil (.node k' none d0 d1 d2 d3) c2 c3) l r b tp w (.returned (.bool false)) w5 from by
              have hkn : k ∉ bks (ch 1 (.node k none .nil (.node k' none d0 d1 d2 d3) c2 c3)) := by have := HN.out; simp only [bks, List.nodup_cons, List.mem_append, List.mem_cons, ch] at this ⊢; grind
              refine rem_put 1 none t5 H.out HN.out HR.out ?_ hat5 nd5 hb5 hr5 ?_ (M1.out.trans (hm5.mono (fun j h => bks_ch (t := (.node k none .nil (.node k' none d0 d1 d2 d3) c2 c3)) 1 j h))) ?_
              · rw [hm5.block k (Nat.lt_of_lt_of_le hkw M1.out.size) hkn, E1.out, hp5]; rfl
              · refine (List.Perm.append_left _ hi5).trans ?_; simp [its_node, ch, clr]
              · intro j hj h1 h2
                have h3 : j ≠ k' := fun e => h2 (by simp [ch, bks, e])
                rw [hm5.block j (Nat.lt_of_lt_of_le (H.out.lt j hj) M1.out.size) h2]; exact E3.out j h1 h3)
            clear hp5 hat5 nd5 hb5 hr5 hi5 hm5
            go_wp2
            exact bodyPost_ret (v := .bool false) (by simp [results, Tryd.results52, go_sem]) rfl FIN.out
        · have C2 := cell_of_blk (show w.heap[k']? = some (.cells #[(.iface 25 (.agg #[.int .i64 y.1, .int .i64 y.2.1, .int .i64 y.2.2])), ptr d0, ptr d1, ptr d2, ptr d3] 105 (0, 0)) from H0'.out)
          have F2 := free_of_blk H0'.out
          clear h0'
          have E1 := Lib.hid (show ((w.setCell ⟨k, 0, none⟩ (.iface 25 (.agg #[.int .i64 y.1, .int .i64 y.2.1, .int .i64 y.2.2]))).setCell ⟨k', 0, none⟩ .nilIface).heap[k]? = some (.cells #[iv (some y), .pointer none, .pointer (some ⟨k', 0, none⟩), ptr c2, ptr c3] 105 (0, 0)) from by rw [blk_setCell_ne (b := k') hkk2, blk_setCell H0.out]; rfl)
          have E2 := Lib.hid (show ((w.setCell ⟨k, 0, none⟩ (.iface 25 (.agg #[.int .i64 y.1, .int .i64 y.2.1, .int .i64 y.2.2]))).setCell ⟨k', 0, none⟩ .nilIface).heap[k']? = some (.cells #[.nilIface, ptr d0, ptr d1, ptr d2, ptr d3] 105 (0, 0)) from by rw [blk_setCell ((blk_setCell_ne (b := k) hkk _ _).trans H0'.out)]; rfl)
          have E3 := Lib.hid (show ∀ j, j ≠ k → j ≠ k' → ((w.setCell ⟨k, 0, none⟩ (.iface 25 (.agg #[.int .i64 y.1, .int .i64 y.2.1, .int .i64 y.2.2]))).setCell ⟨k', 0, none⟩ .nilIface).heap[j]? = w.heap[j]? from fun j h1 h2 => by rw [blk_setCell_ne (b := k') h2, blk_setCell_ne (b := k) h1])
          have M1 := Lib.hid (show Mod (bks (.node k none .nil (.node k' (some y) d0 d1 d2 d3) c2 c3)) w ((w.setCell ⟨k, 0, none⟩ (.iface 25 (.agg #[.int .i64 y.1, .int .i64 y.2.1, .int .i64 y.2.2]))).setCell ⟨k', 0, none⟩ .nilIface) from (Mod.set ⟨k, 0, none⟩ _ (by simp [bks])).trans (Mod.set ⟨k', 0, none⟩ _ (bks_ch 1 k' (by simp [ch, bks]))))
          go_wp2_with fail
          refine (IH.out 1 _ _ _ _ _ (by simp [ch]) (HP.out _ E3.out E2.out) HNK.out (clr_reg HRK.out)).mono ?_
          rintro e w5 (⟨rfl, hl, rfl⟩ | ⟨rfl, t5, hp5, hat5, nd5, hb5, hr5, hi5, hm5⟩)
          · have hl := Lib.hid hl
            have C3 := cell_of_blk E1.out
            have F3 := free_of_blk E1.out
            generalize hW : ((w.setCell ⟨k, 0, none⟩ (.iface 25 (.agg #[.int .i64 y.1, .int .i64 y.2.1, .int .i64 y.2.2]))).setCell ⟨k', 0, none⟩ .nilIface) = wb at *
            have HW := Lib.hid hW; clear hW
            clear C1 C2 F2
            go_wp2
            refine bodyPost_ret (v := .bool false) (by simp [results, Tryd.results52, go_sem]) rfl ?_
            refine rem_put 1 (some y) .nil H.out HN.out HR.out (by rw [blk_setCell E1.out]; rfl) trivial (by simp [bks]) (by simp [bks]) trivial ?_ (M1.out.trans (Mod.set _ _ (by simp [bks]))) ?_
            · obtain ⟨rfl, rfl, rfl, rfl⟩ := hl.out; simp [its_node, ch, its, nds]
            · intro j hj h1 h2
              have h3 : j ≠ k' := fun e => h2 (by simp [ch, bks, e])
              exact (blk_setCell_ne (b := k) h1 _ _).trans (E3.out j h1 h3)
          · have FIN := Lib.hid (show RemSays (.node k none .nil (.node k' (some y) d0 d1 d2 d3) c2 c3) l r b tp w (.returned (.bool false)) w5 from by
              have hkn : k ∉ bks (ch 1 (.node k none .nil (.node k' (some y) d0 d1 d2 d3) c2 c3)) := by have := HN.out; simp only [bks, List.nodup_cons, List.mem_append, List.mem_cons, ch] at this ⊢; grind
              refine rem_put 1 (some y) t5 H.out HN.out HR.out ?_ hat5 nd5 hb5 hr5 ?_ (M1.out.trans (hm5.mono (fun j h => bks_ch (t := (.node k none .nil (.node k' (some y) d0 d1 d2 d3) c2 c3)) 1 j h))) ?_
              · rw [hm5.block k (Nat.lt_of_lt_of_le hkw M1.out.size) hkn, E1.out, hp5]; rfl
              · refine (List.Perm.append_left _ hi5).trans ?_; simp [its_node, ch, clr]
              · intro j hj h1 h2
                have h3 : j ≠ k' := fun e => h2 (by simp [ch, bks, e])
                rw [hm5.block j (Nat.lt_of_lt_of_le (H.out.lt j hj) M1.out.size) h2]; exact E3.out j h1 h3)
            clear hp5 hat5 nd5 hb5 hr5 hi5 hm5
            go_wp2
            exact bodyPost_ret (v := .bool false) (by simp [results, Tryd.results52, go_sem]) rfl FIN.out
    · have C1 := cell_of_blk (show w.heap[k]? = some (.cells #[.nilIface, .pointer (some ⟨k', 0, none⟩), ptr c1, ptr c2, ptr c3] 105 (0, 0)) from H0.out)
      have HC := at_ch H.out 0
      have hkk : k' ≠ k := by have := HN.out; simp only [bks, List.nodup_cons, List.mem_append, List.mem_cons] at this; grind
      have hkk2 : k ≠ k' := Ne.symm hkk
      have h0' : w.heap[k']? = some (.cells #[iv u, ptr d0, ptr d1, ptr d2, ptr d3] 105 (0, 0)) := HC.1
      have H0' := Lib.hid h0'
      have hn := Lib.hid (show k' ∉ bks d0 ∧ k' ∉ bks d1 ∧ k' ∉ bks d2 ∧ k' ∉ bks d3 ∧ k ∉ bks d0 ∧ k ∉ bks d1 ∧ k ∉ bks d2 ∧ k ∉ bks d3 from by have := HN.out; simp only [bks, List.nodup_cons, List.nodup_append, List.mem_append, List.mem_cons] at this; grind)
      have HC := Lib.hid HC
      have HP := Lib.hid (show ∀ W : World, (∀ j, j ≠ k → j ≠ k' → W.heap[j]? = w.heap[j]?) → W.heap[k']? = some (.cells #[.nilIface, ptr d0, ptr d1, ptr d2, ptr d3] 105 (0, 0)) → At W (.node k' none d0 d1 d2 d3) from fun W hj hk => ⟨hk, HC.out.2.1.frame fun j h => hj j (fun e => hn.out.2.2.2.2.1 (e ▸ h)) (fun e => hn.out.1 (e ▸ h)), HC.out.2.2.1.frame fun j h => hj j (fun e => hn.out.2.2.2.2.2.1 (e ▸ h)) (fun e => hn.out.2.1 (e ▸ h)), HC.out.2.2.2.1.frame fun j h => hj j (fun e => hn.out.2.2.2.2.2.2.1 (e ▸ h)) (fun e => hn.out.2.2.1 (e ▸ h)), HC.out.2.2.2.2.frame fun j h => hj j (fun e => hn.out.2.2.2.2.2.2.2 (e ▸ h)) (fun e => hn.out.2.2.2.1 (e ▸ h))⟩)
      have hkw' := (Array.getElem?_eq_some_iff.1 h0').1
      have hnk := nodup_ch HN.out 0
      have HNK := Lib.hid hnk; clear hnk
      have HRK := Lib.hid (reg_ch HR.out 0)
      clear C0
      rcases u with _ | y
      · have C2 := cell_of_blk (show w.heap[k']? = some (.cells #[.nilIface, ptr d0, ptr d1, ptr d2, ptr d3] 105 (0, 0)) from H0'.out)
        have F2 := free_of_blk H0'.out
        clear h0'
        have E1 := Lib.hid (show ((w.setCell ⟨k, 0, none⟩ .nilIface).setCell ⟨k', 0, none⟩ .nilIface).heap[k]? = some (.cells #[iv none, .pointer (some ⟨k', 0, none⟩), ptr c1, ptr c2, ptr c3] 105 (0, 0)) from by rw [blk_setCell_ne (b := k') hkk2, blk_setCell H0.out]; rfl)
        have E2 := Lib.hid (show ((w.setCell ⟨k, 0, none⟩ .nilIface).setCell ⟨k', 0, none⟩ .nilIface).heap[k']? = some (.cells #[.nilIface, ptr d0, ptr d1, ptr d2, ptr d3] 105 (0, 0)) from by rw [blk_setCell ((blk_setCell_ne (b := k) hkk _ _).trans H0'.out)]; rfl)
        have E3 := Lib.hid (show ∀ j, j ≠ k → j ≠ k' → ((w.setCell ⟨k, 0, none⟩ .nilIface).setCell ⟨k', 0, none⟩ .nilIface).heap[j]? = w.heap[j]? from fun j h1 h2 => by rw [blk_setCell_ne (b := k') h2, blk_setCell_ne (b := k) h1])
        have M1 := Lib.hid (show Mod (bks (.node k none (.node k' none d0 d1 d2 d3) c1 c2 c3)) w ((w.setCell ⟨k, 0, none⟩ .nilIface).setCell ⟨k', 0, none⟩ .nilIface) from (Mod.set ⟨k, 0, none⟩ _ (by simp [bks])).trans (Mod.set ⟨k', 0, none⟩ _ (bks_ch 0 k' (by simp [ch, bks]))))
        go_wp2_with fail
        refine (IH.out 0 _ _ _ _ _ (by simp [ch]) (HP.out _ E3.out E2.out) HNK.out (clr_reg HRK.out)).mono ?_
        rintro e w5 (⟨rfl, hl, rfl⟩ | ⟨rfl, t5, hp5, hat5, nd5, hb5, hr5, hi5, hm5⟩)
        · have hl := Lib.hid hl
          have C3 := cell_of_blk E1.out
          have F3 := free_of_blk E1.out
          generalize hW : ((w.setCell ⟨k, 0, none⟩ .nilIface).setCell ⟨k', 0, none⟩ .nilIface) = wb at *
          have HW := Lib.hid hW; clear hW
          clear C1 C2 F2
          go_wp2
          refine bodyPost_ret (v := .bool false) (by simp [results, Tryd.results52, go_sem]) rfl ?_
          refine rem_put 0 none .nil H.out HN.out HR.out (by rw [blk_setCell E1.out]; rfl) trivial (by simp [bks]) (by simp [bks]) trivial ?_ (M1.out.trans (Mod.set _ _ (by simp [bks]))) ?_
          · obtain ⟨rfl, rfl, rfl, rfl⟩ := hl.out; simp [its_node, ch, its, nds]
          · intro j hj h1 h2
            have h3 : j ≠ k' := fun e => h2 (by simp [ch, bks, e])
            exact (blk_setCell_ne (b := k) h1 _ _).trans (E3.out j h1 h3)
        · have FIN := Lib.hid (show RemSays (.node k none (.node k' none d0 d1 d2 d3) c1 c2 c3) l r b tp w (.returned (.bool false)) w5 from by
            have hkn : k ∉ bks (ch 0 (.node k none (.node k' none d0 d1 d2 d3) c1 c2 c3)) := by have := HN.out; simp only [bks, List.nodup_cons, List.mem_append, List.mem_cons, ch] at this ⊢; grind
            refine rem_put 0 none t5 H.out HN.out HR.out ?_ hat5 nd5 hb5 hr5 ?_ (M1.out.trans (hm5.mono (fun j h => bks_ch (t := (.node k none (.node k' none d0 d1 d2 d3) c1 c2 c3)) 0 j h))) ?_
            · rw [hm5.block k (Nat.lt_of_lt_of_le hkw M1.out.size) hkn, E1.out, hp5]; rfl
            · refine (List.Perm.append_left _ hi5).trans ?_; simp [its_node, ch, clr]
            · intro j hj h1 h2
              have h3 : j ≠ k' := fun e => h2 (by simp [ch, bks, e])
              rw [hm5.block j (Nat.lt_of_lt_of_le (H.out.lt j hj) M1.out.size) h2]; exact E3.out j h1 h3)
          clear hp5 hat5 nd5 hb5 hr5 hi5 hm5
          go_wp2
          exact bodyPost_ret (v := .bool false) (by simp [results, Tryd.results52, go_sem]) rfl FIN.out
      · have C2 := cell_of_blk (show w.heap[k']? = some (.cells #[(.iface 25 (.agg #[.int .i64 y.1, .int .i64 y.2.1, .int .i64 y.2.2])), ptr d0, ptr d1, ptr d2, ptr d3] 105 (0, 0)) from H0'.out)
        have F2 := free_of_blk H0'.out
        clear h0'
        have E1 := Lib.hid (show ((w.setCell ⟨k, 0, none⟩ (.iface 25 (.agg #[.int .i64 y.1, .int .i64 y.2.1, .int .i64 y.2.2]))).setCell ⟨k', 0, none⟩ .nilIface).heap[k]? = some (.cells #[iv (some y), .pointer (some ⟨k', 0, none⟩), ptr c1, ptr c2, ptr c3] 105 (0, 0)) from by rw [blk_setCell_ne (b := k') hkk2, blk_setCell H0.out]; rfl)
        have E2 := Lib.hid (show ((w.setCell ⟨k, 0, none⟩ (.iface 25 (.agg #[.int .i64 y.1, .int .i64 y.2.1, .int .i64 y.2.2]))).setCell ⟨k', 0, none⟩ .nilIface).heap[k']? = some (.cells #[.nilIface, ptr d0, ptr d1, ptr d2, ptr d3] 105 (0, 0)) from by rw [blk_setCell ((blk_setCell_ne (b := k) hkk _ _).trans H0'.out)]; rfl)
        have E3 := Lib.hid (show ∀ j, j ≠ k → j ≠ k' → ((w.setCell ⟨k, 0, none⟩ (.iface 25 (.agg #[.int .i64 y.1, .int .i64 y.2.1, .int .i64 y.2.2]))).setCell ⟨k', 0, none⟩ .nilIface).heap[j]? = w.heap[j]? from fun j h1 h2 => by rw [blk_setCell_ne (b := k') h2, blk_setCell_ne (b := k) h1])
        have M1 := Lib.hid (show Mod (bks (.node k none (.node k' (some y) d0 d1 d2 d3) c1 c2 c3)) w ((w.setCell ⟨k, 0, none⟩ (.iface 25 (.agg #[.int .i64 y.1, .int .i64 y.2.1, .int .i64 y.2.2]))).setCell ⟨k', 0, none⟩ .nilIface) from (Mod.set ⟨k, 0, none⟩ _ (by simp [bks])).trans (Mod.set ⟨k', 0, none⟩ _ (bks_ch 0 k' (by simp [ch, bks]))))
        go_wp2_with fail
        refine (IH.out 0 _ _ _ _ _ (by simp [ch]) (HP.out _ E3.out E2.out) HNK.out (clr_reg HRK.out)).mono ?_
        rintro e w5 (⟨rfl, hl, rfl⟩ | ⟨rfl, t5, hp5, hat5, nd5, hb5, hr5, hi5, hm5⟩)
        · have hl := Lib.hid hl
          have C3 := cell_of_blk E1.out
          have F3 := free_of_blk E1.out
          generalize hW : ((w.setCell ⟨k, 0, none⟩ (.iface 25 (.agg #[.int .i64 y.1, .int .i64 y.2.1, .int .i64 y.2.2]))).setCell ⟨k', 0, none⟩ .nilIface) = wb at *
          have HW := Lib.hid hW; clear hW
          clear C1 C2 F2
          go_wp2
          refine bodyPost_ret (v := .bool false) (by simp [results, Tryd.results52, go_sem]) rfl ?_
          refine rem_put 0 (some y) .nil H.out HN.out HR.out (by rw [blk_setCell E1.out]; rfl) trivial (by simp [bks]) (by simp [bks]) trivial ?_ (M1.out.trans (Mod.set _ _ (by simp [bks]))) ?_
          · obtain ⟨rfl, rfl, rfl, rfl⟩ := hl.out; simp [its_node, ch, its, nds]
          · intro j hj h1 h2
            have h3 : j ≠ k' := fun e => h2 (by simp [ch, bks, e])
            exact (blk_setCell_ne (b := k) h1 _ _).trans (E3.out j h1 h3)
        · have FIN := Lib.hid (show RemSays (.node k none (.node k' (some y) d0 d1 d2 d3) c1 c2 c3) l r b tp w (.returned (.bool false)) w5 from by
            have hkn : k ∉ bks (ch 0 (.node k none (.node k' (some y) d0 d1 d2 d3) c1 c2 c3)) := by have := HN.out; simp only [bks, List.nodup_cons, List.mem_append, List.mem_cons, ch] at this ⊢; grind
            refine rem_put 0 (some y) t5 H.out HN.out HR.out ?_ hat5 nd5 hb5 hr5 ?_ (M1.out.trans (hm5.mono (fun j h => bks_ch (t := (.node k none (.node k' (some y) d0 d1 d2 d3) c1 c2 c3)) 0 j h))) ?_
            · rw [hm5.block k (Nat.lt_of_lt_of_le hkw M1.out.size) hkn, E1.out, hp5]; rfl
            · refine (List.Perm.append_left _ hi5).trans ?_; simp [its_node, ch, clr]
            · intro j hj h1 h2
              have h3 : j ≠ k' := fun e => h2 (by simp [ch, bks, e])
              rw [hm5.block j (Nat.lt_of_lt_of_le (H.out.lt j hj) M1.out.size) h2]; exact E3.out j h1 h3)
          clear hp5 hat5 nd5 hb5 hr5 hi5 hm5
          go_wp2
          exact bodyPost_ret (v := .bool false) (by simp [results, Tryd.results52, go_sem]) rfl FIN.out

end Go.Proofs.YtmmmknmncdlopaaDoor
