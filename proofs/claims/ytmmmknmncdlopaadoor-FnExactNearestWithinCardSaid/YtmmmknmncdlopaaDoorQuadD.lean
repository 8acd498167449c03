/- The tree with one child put anew, in plain terms. No condition. -/
import Derived.Test.YtmmmknmncdlopaaDoorQuadB
namespace Go.Proofs.YtmmmknmncdlopaaDoor
open Go.ChangeShapes Go.WideShapes Go.ChangeAt Go.RowKit
open Go.Proofs.YtmmmknmncdlopaaDoor.F

/-- A node's child. -/
def ch (i : Nat) : Tr → Tr
  | .nil => .nil
  | .node _ _ c0 c1 c2 c3 => match i with | 0 => c0 | 1 => c1 | 2 => c2 | _ => c3
/-- The tree with a child put anew. -/
def setc (i : Nat) (c : Tr) : Tr → Tr
  | .nil => .nil
  | .node k v c0 c1 c2 c3 => match i with | 0 => .node k v c c1 c2 c3 | 1 => .node k v c0 c c2 c3 | 2 => .node k v c0 c1 c c3 | _ => .node k v c0 c1 c2 c
/-- A child's region. -/
def rl (i l r : Nat) : Nat := match i with | 0 => l | 1 => midw l r | 2 => l | _ => midw l r
def rr (i l r : Nat) : Nat := match i with | 0 => midw l r | 1 => r | 2 => midw l r | _ => r
def rb (i b t : Nat) : Nat := match i with | 0 => midw b t | 1 => midw b t | 2 => b | _ => b
def rt (i b t : Nat) : Nat := match i with | 0 => t | 1 => t | 2 => midw b t | _ => midw b t

theorem its_append (t : Tr) : ∀ (i : Nat) (c : Tr), ∃ A B : List T3, its t = A ++ (its (ch i t) ++ B) ∧ (t ≠ .nil → its (setc i c t) = A ++ (its c ++ B)) := by
  intro i c
  cases t with
  | nil => exact ⟨[], [], by simp [its, nds, ch], fun h => absurd rfl h⟩
  | node k v c0 c1 c2 c3 =>
    match i with
    | 0 => exact ⟨v.toList, its c1 ++ (its c2 ++ its c3), by simp [its_node, ch], fun _ => by simp [its_node, setc]⟩
    | 1 => exact ⟨v.toList ++ its c0, its c2 ++ its c3, by simp [its_node, ch], fun _ => by simp [its_node, setc]⟩
    | 2 => exact ⟨v.toList ++ (its c0 ++ its c1), its c3, by simp [its_node, ch], fun _ => by simp [its_node, setc]⟩
    | i + 3 => exact ⟨v.toList ++ (its c0 ++ (its c1 ++ its c2)), [], by simp [its_node, ch], fun _ => by simp [its_node, setc]⟩
theorem bks_append (t : Tr) : ∀ (i : Nat) (c : Tr), t ≠ .nil → ∃ A B : List Nat, bks t = A ++ (bks (ch i t) ++ B) ∧ bks (setc i c t) = A ++ (bks c ++ B) := by
  intro i c ht
  cases t with
  | nil => exact absurd rfl ht
  | node k v c0 c1 c2 c3 =>
    match i with
    | 0 => exact ⟨[k], bks c1 ++ (bks c2 ++ bks c3), by simp [bks, ch], by simp [bks, setc]⟩
    | 1 => exact ⟨k :: bks c0, bks c2 ++ bks c3, by simp [bks, ch], by simp [bks, setc]⟩
    | 2 => exact ⟨k :: (bks c0 ++ bks c1), bks c3, by simp [bks, ch], by simp [bks, setc]⟩
    | i + 3 => exact ⟨k :: (bks c0 ++ (bks c1 ++ bks c2)), [], by simp [bks, ch], by simp [bks, setc]⟩
theorem nodup_mid {A B C D : List Nat} (h : (A ++ (B ++ C)).Nodup) (hd : D.Nodup) (hs : ∀ k ∈ D, k ∈ B ∨ (k ∉ A ∧ k ∉ C)) : (A ++ (D ++ C)).Nodup := by
  simp only [List.nodup_append, List.mem_append] at h ⊢
  obtain ⟨a, ⟨b, c, d⟩, e⟩ := h
  refine ⟨a, ⟨hd, c, fun x hx y hy => ?_⟩, fun x hx y hy => ?_⟩
  · rcases hs x hx with h | h
    · exact d x h y hy
    · rintro rfl; exact h.2 hy
  · rcases hy with hy | hy
    · rcases hs y hy with h | h
      · exact e x hx y (.inl h)
      · rintro rfl; exact h.1 hx
    · exact e x hx y (.inr hy)

/-- A child put anew: what lies where. -/
theorem at_setc {w w' : World} {k : Nat} {v : Option T3} {c0 c1 c2 c3 : Tr} {i : Nat} {c : Tr} (hat : At w (.node k v c0 c1 c2 c3)) (nd : (bks (.node k v c0 c1 c2 c3)).Nodup)
    (hk : w'.heap[k]? = some (.cells ((#[iv v, ptr c0, ptr c1, ptr c2, ptr c3] : Array Value).setIfInBounds (1 + min i 3) (ptr c)) 105 (0, 0))) (hc : At w' c)
    (hoth : ∀ j ∈ bks (.node k v c0 c1 c2 c3), j ≠ k → j ∉ bks (ch i (.node k v c0 c1 c2 c3)) → w'.heap[j]? = w.heap[j]?) : At w' (setc i c (.node k v c0 c1 c2 c3)) := by
  obtain ⟨h0, h1, h2, h3, h4⟩ := hat
  have g : ∀ d : Tr, At w d → (∀ j ∈ bks d, j ∈ bks (.node k v c0 c1 c2 c3) ∧ j ≠ k ∧ j ∉ bks (ch i (.node k v c0 c1 c2 c3))) → At w' d := fun d hd hj =>
    hd.frame fun j hm => hoth j (hj j hm).1 (hj j hm).2.1 (hj j hm).2.2
  simp only [bks, List.nodup_cons, List.nodup_append, List.mem_append] at nd
  obtain ⟨n0, n1, ⟨n2, ⟨n3, n4, n5⟩, n6⟩, n7⟩ := nd
  match i with
  | 0 => exact ⟨hk, hc, g c1 h2 (by simp only [bks, ch, List.mem_cons, List.mem_append]; grind), g c2 h3 (by simp only [bks, ch, List.mem_cons, List.mem_append]; grind), g c3 h4 (by simp only [bks, ch, List.mem_cons, List.mem_append]; grind)⟩
  | 1 => exact ⟨hk, g c0 h1 (by simp only [bks, ch, List.mem_cons, List.mem_append]; grind), hc, g c2 h3 (by simp only [bks, ch, List.mem_cons, List.mem_append]; grind), g c3 h4 (by simp only [bks, ch, List.mem_cons, List.mem_append]; grind)⟩
  | 2 => exact ⟨hk, g c0 h1 (by simp only [bks, ch, List.mem_cons, List.mem_append]; grind), g c1 h2 (by simp only [bks, ch, List.mem_cons, List.mem_append]; grind), hc, g c3 h4 (by simp only [bks, ch, List.mem_cons, List.mem_append]; grind)⟩
  | i + 3 =>
    have e : 1 + min (i + 3) 3 = 4 := by omega
    rw [e] at hk
    exact ⟨hk, g c0 h1 (by simp only [bks, ch, List.mem_cons, List.mem_append]; grind), g c1 h2 (by simp only [bks, ch, List.mem_cons, List.mem_append]; grind), g c2 h3 (by simp only [bks, ch, List.mem_cons, List.mem_append]; grind), hc⟩
theorem reg_setc {t : Tr} {i : Nat} {c : Tr} {l r b tp : Nat} (h : Reg t l r b tp) (hc : Reg c (rl i l r) (rr i l r) (rb i b tp) (rt i b tp)) (hits : ∀ x ∈ its (setc i c t), Inr x l r b tp) : Reg (setc i c t) l r b tp := by
  cases t with
  | nil => trivial
  | node k v c0 c1 c2 c3 =>
    obtain ⟨_, h1, h2, h3, h4⟩ := h
    match i with
    | 0 => exact ⟨hits, hc, h2, h3, h4⟩
    | 1 => exact ⟨hits, h1, hc, h3, h4⟩
    | 2 => exact ⟨hits, h1, h2, hc, h4⟩
    | i + 3 => exact ⟨hits, h1, h2, h3, hc⟩
theorem reg_ch {t : Tr} {l r b tp : Nat} (h : Reg t l r b tp) (i : Nat) : Reg (ch i t) (rl i l r) (rr i l r) (rb i b tp) (rt i b tp) := by
  cases t with
  | nil => trivial
  | node k v c0 c1 c2 c3 =>
    obtain ⟨_, h1, h2, h3, h4⟩ := h
    match i with
    | 0 => exact h1
    | 1 => exact h2
    | 2 => exact h3
    | i + 3 => exact h4
theorem reg_its {t : Tr} {l r b tp : Nat} (h : Reg t l r b tp) : ∀ x ∈ its t, Inr x l r b tp := by
  cases t with
  | nil => simp [its, nds]
  | node k v c0 c1 c2 c3 => exact h.1
theorem at_ch {w : World} {t : Tr} (h : At w t) (i : Nat) : At w (ch i t) := by
  cases t with
  | nil => trivial
  | node k v c0 c1 c2 c3 =>
    obtain ⟨_, h1, h2, h3, h4⟩ := h
    match i with
    | 0 => exact h1
    | 1 => exact h2
    | 2 => exact h3
    | i + 3 => exact h4
theorem bks_ch {t : Tr} (i : Nat) : ∀ k ∈ bks (ch i t), k ∈ bks t := by
  cases t with
  | nil => intro k h; exact h
  | node k v c0 c1 c2 c3 =>
    match i with
    | 0 => intro k h; simp only [ch] at h; simp [bks, h]
    | 1 => intro k h; simp only [ch] at h; simp [bks, h]
    | 2 => intro k h; simp only [ch] at h; simp [bks, h]
    | i + 3 => intro k h; simp only [ch] at h; simp [bks, h]
theorem nodup_ch {t : Tr} (h : (bks t).Nodup) (i : Nat) : (bks (ch i t)).Nodup := by
  cases t with
  | nil => exact h
  | node k v c0 c1 c2 c3 =>
    obtain ⟨A, B, e, _⟩ := bks_append (.node k v c0 c1 c2 c3) i .nil (by simp)
    rw [e, List.nodup_append, List.nodup_append] at h
    exact h.2.1.1

end Go.Proofs.YtmmmknmncdlopaaDoor
