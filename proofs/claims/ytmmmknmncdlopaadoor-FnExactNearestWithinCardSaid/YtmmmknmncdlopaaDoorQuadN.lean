/- A node of a tree, and the tree with what hangs below it put anew. Plain: no program. The visitor of InBound meets the contract of a visitor. -/
import Derived.Test.YtmmmknmncdlopaaDoorQuadM
import Derived.Test.YtmmmknmncdlopaaDoorQuadL
import Derived.Test.YtmmmknmncdlopaaDoorQuadE
namespace Go.Proofs.YtmmmknmncdlopaaDoor
open Go.ChangeShapes Go.WideShapes Go.ChangeAt Go.RowKit
open Go.Proofs.YtmmmknmncdlopaaDoor.F

theorem zero_F : IsF 0 0 := ⟨false, 0, rfl, by decide, rfl⟩
theorem inb_vis {a v kb B R N : Nat} {fv : Value} {f : T3 → Bool} {Q : World → Prop} {b : B4} (hF : Fil fv f Q) (hQ : ∀ w w', Q w → Below B w w' → Q w') (hd : B ≤ a ∧ a ≠ kb ∧ v ≠ a) (hR : B ≤ R ∧ a < R ∧ kb < R ∧ v < R) (hN : N ≤ 1048576) :
    Vis 106 106 107 108 a v kb B N (fun w L => ∃ sv us, InbP a v kb B R fv f Q b w L sv us) where
  nB := inb_nB a
  nP := inb_nP a
  nV := inb_nV a
  mB := inb_mB a
  mP := inb_mP a
  mV := inb_mV a
  eB := inb_eB
  eP := inb_eP
  eV := inb_eV
  vis := fun ⟨_, _, h⟩ => h.hv
  box := fun ⟨sv, us, h⟩ => ⟨b.1, b.2.1, b.2.2.1, b.2.2.2, h.fin.1, h.fin.2.1, h.fin.2.2.1, h.fin.2.2.2, h.hk, fun n hn => ⟨sv, us, h.box n hn⟩⟩
  size := fun ⟨_, _, h⟩ => Nat.le_trans hR.1 h.size
  perm := fun ⟨sv, us, h⟩ hp => ⟨sv, us, h.perm hp⟩
  ext := fun ⟨sv, us, h⟩ hx => ⟨sv, us, h.ext hR.1 hQ hx⟩
  bound := fun ⟨_, _, h⟩ => inb_bound h.ha
  point := ⟨0, 0, 0, 0, zero_F, zero_F, fun _ => inb_point _ a⟩
  visit := fun k p c0 c1 c2 c3 ⟨_, _, h⟩ hL hk hn hp => inb_visit hF hQ hd hR hN hL h k p c0 c1 c2 c3 hk hn hp

theorem nds_ch {k : Nat} {v : Option T3} {c0 c1 c2 c3 : Tr} {q : Nat × T3} (h : q ∈ nds (.node k v c0 c1 c2 c3)) : (v = some q.2 ∧ q.1 = k) ∨ ∃ i, i ≤ 3 ∧ q ∈ nds (ch i (.node k v c0 c1 c2 c3)) := by
  simp only [nds, List.mem_append, List.mem_map, Option.mem_toList] at h
  rcases h with ⟨x, hx, rfl⟩ | h | h | h | h
  · exact .inl ⟨hx, rfl⟩
  · exact .inr ⟨0, by omega, h⟩
  · exact .inr ⟨1, by omega, h⟩
  · exact .inr ⟨2, by omega, h⟩
  · exact .inr ⟨3, by omega, h⟩
theorem set_same {k : Nat} {v : Option T3} {c0 c1 c2 c3 c : Tr} {i : Nat} (hi : i ≤ 3) (h : ptr c = ptr (ch i (.node k v c0 c1 c2 c3))) : (#[iv v, ptr c0, ptr c1, ptr c2, ptr c3] : Array Value).setIfInBounds (1 + min i 3) (ptr c) = #[iv v, ptr c0, ptr c1, ptr c2, ptr c3] := by
  rcases (by omega : i = 0 ∨ i = 1 ∨ i = 2 ∨ i = 3) with rfl | rfl | rfl | rfl <;> simp only [ch] at h <;> rw [h] <;> rfl

/-- A node of a tree: the tree below it, and what the whole is when that is put anew. -/
def SubOk (w : World) (q : Nat × T3) (t : Tr) : Prop := ∀ l r b tp : Nat, q ∈ nds t → Reg t l r b tp → (bks t).Nodup → At w t →
    ∃ (d0 d1 d2 d3 : Tr) (l' r' b' tp' : Nat), At w (.node q.1 (some q.2) d0 d1 d2 d3) ∧ Reg (.node q.1 (some q.2) d0 d1 d2 d3) l' r' b' tp' ∧ (bks (.node q.1 (some q.2) d0 d1 d2 d3)).Nodup ∧ (∀ j ∈ bks (.node q.1 (some q.2) d0 d1 d2 d3), j ∈ bks t) ∧
      ∀ (s' : Tr) (w' : World), ptr s' = pt q.1 → At w' s' → (bks s').Nodup → (∀ j ∈ bks s', j ∈ bks (.node q.1 (some q.2) d0 d1 d2 d3)) → Reg s' l' r' b' tp' → (∀ y ∈ its s', y ∈ its (.node q.1 (some q.2) d0 d1 d2 d3)) →
        (∀ j ∈ bks t, j ∉ bks (.node q.1 (some q.2) d0 d1 d2 d3) → w'.heap[j]? = w.heap[j]?) →
        ∃ t', ptr t' = ptr t ∧ At w' t' ∧ (bks t').Nodup ∧ (∀ j ∈ bks t', j ∈ bks t) ∧ Reg t' l r b tp ∧ (∀ y ∈ its t', y ∈ its t) ∧ (its (.node q.1 (some q.2) d0 d1 d2 d3) ++ its t').Perm (its s' ++ its t)
theorem sub_ex (w : World) (q : Nat × T3) : ∀ t : Tr, SubOk w q t := by
  intro t
  induction t with
  | nil => intro l r b tp h; simp [nds] at h
  | node k v c0 c1 c2 c3 ih0 ih1 ih2 ih3 =>
    intro l r b tp h hreg nd hat
    have IH : ∀ i, SubOk w q (ch i (.node k v c0 c1 c2 c3)) := fun i => by
      match i with
      | 0 => exact ih0
      | 1 => exact ih1
      | 2 => exact ih2
      | i + 3 => exact ih3
    rcases nds_ch h with ⟨rfl, rfl⟩ | ⟨i, hi, h⟩
    · exact ⟨c0, c1, c2, c3, l, r, b, tp, hat, hreg, nd, fun j hj => hj, fun s' w' h1 h2 h3 h4 h5 h6 _ => ⟨s', h1, h2, h3, h4, h5, h6, List.perm_append_comm⟩⟩
    · obtain ⟨d0, d1, d2, d3, l', r', b', tp', g1, g2, g3, g4, g5⟩ := IH i _ _ _ _ h (reg_ch hreg i) (nodup_ch nd i) (at_ch hat i)
      refine ⟨d0, d1, d2, d3, l', r', b', tp', g1, g2, g3, fun j hj => bks_ch i j (g4 j hj), fun s' w' h1 h2 h3 h4 h5 h6 h7 => ?_⟩
      obtain ⟨c, e1, e2, e3, e4, e5, e6, e7⟩ := g5 s' w' h1 h2 h3 h4 h5 h6 (fun j hj => h7 j (bks_ch i j hj))
      have hne : (Tr.node k v c0 c1 c2 c3) ≠ .nil := by simp
      obtain ⟨A, C, f1, f2⟩ := bks_append (.node k v c0 c1 c2 c3) i c hne
      obtain ⟨X, Y, y1, y2⟩ := its_append (.node k v c0 c1 c2 c3) i c
      replace y2 := y2 hne
      have hkc : k ∉ bks (ch i (.node k v c0 c1 c2 c3)) := by
        have := nd
        simp only [bks, List.nodup_cons, List.mem_append] at this
        rcases (by omega : i = 0 ∨ i = 1 ∨ i = 2 ∨ i = 3) with rfl | rfl | rfl | rfl <;> simp only [ch] <;> grind
      have hits : ∀ y ∈ its (setc i c (.node k v c0 c1 c2 c3)), y ∈ its (.node k v c0 c1 c2 c3) := fun y hy => by
        rw [y2] at hy; rw [y1]
        simp only [List.mem_append] at hy ⊢
        rcases hy with h | h | h
        · exact .inl h
        · exact .inr (.inl (e6 y h))
        · exact .inr (.inr h)
      refine ⟨setc i c (.node k v c0 c1 c2 c3), by rcases (by omega : i = 0 ∨ i = 1 ∨ i = 2 ∨ i = 3) with rfl | rfl | rfl | rfl <;> rfl, at_setc hat nd ?_ e2 ?_, ?_, ?_, reg_setc hreg e5 (fun y hy => hreg.1 y (hits y hy)), hits, ?_⟩
      · rw [set_same hi e1, h7 k (by simp [bks]) (fun hm => hkc (g4 k hm))]; exact hat.1
      · exact fun j hj hk hc => h7 j hj (fun hm => hc (g4 j hm))
      · rw [f2]
        have h1 := nd
        rw [f1] at h1
        exact nodup_mid h1 e3 fun j hj => .inl (e4 j hj)
      · intro j hj
        rw [f2] at hj; rw [f1]
        simp only [List.mem_append] at hj ⊢
        rcases hj with h | h | h
        · exact .inl h
        · exact .inr (.inl (e4 j h))
        · exact .inr (.inr h)
      · rw [y1, y2]
        rw [List.perm_iff_count] at e7 ⊢
        intro z
        have := e7 z
        simp only [List.count_append] at this ⊢
        omega

end Go.Proofs.YtmmmknmncdlopaaDoor
