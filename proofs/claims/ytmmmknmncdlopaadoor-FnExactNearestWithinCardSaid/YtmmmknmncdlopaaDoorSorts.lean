/- Putting an item into its place in a sorted list; a row of a call's own with a cell put anew. No condition. -/
import Derived.Test.YtmmmknmncdlopaaDoorSpecD
import Derived.Test.YtmmmknmncdlopaaDoorSpecA
namespace Go.Proofs.YtmmmknmncdlopaaDoor
open Go.ChangeShapes Go.WideShapes Go.ChangeAt Go.RowKit
open Go.Proofs.YtmmmknmncdlopaaDoor.F

section
variable {α : Type}

/-- The list A with x put in at k. -/
def ins (A : List α) (x : α) (k : Nat) : List α := A.take k ++ x :: A.drop k
theorem ins_len (A : List α) (x : α) {k : Nat} (hk : k ≤ A.length) : (ins A x k).length = A.length + 1 := by
  unfold ins; rw [List.length_append, List.length_take, List.length_cons, List.length_drop]; omega
theorem ins_perm (A : List α) (x : α) (k : Nat) : (ins A x k).Perm (x :: A) := by
  unfold ins
  refine List.perm_middle.trans ?_
  rw [List.take_append_drop]
theorem ins_end (A : List α) (x : α) : ins A x A.length = A ++ [x] := by
  unfold ins; rw [List.take_length, List.drop_length]
theorem ins_at (A : List α) (x : α) {k : Nat} (hk : k ≤ A.length) : (ins A x k)[k]? = some x := by
  unfold ins
  rw [List.getElem?_append_right (by rw [List.length_take]; omega), List.length_take, Nat.min_eq_left hk, Nat.sub_self]
  rfl
theorem ins_before (A : List α) (x : α) {k : Nat} (hk : k + 1 ≤ A.length) : (ins A x (k + 1))[k]? = A[k]? := by
  unfold ins
  rw [List.getElem?_append_left (by rw [List.length_take]; omega), List.getElem?_take, if_pos (by omega)]
/-- One place to the left. -/
theorem ins_swap (A : List α) (x y : α) {k : Nat} (hk : k + 1 ≤ A.length) (hy : A[k]? = some y) : ((ins A x (k + 1)).set (k + 1) y).set k x = ins A x k := by
  have h1 : A.take (k + 1) = A.take k ++ [y] := by rw [List.take_add_one, hy]; rfl
  have h2 : A.drop k = y :: A.drop (k + 1) := by
    rw [List.drop_eq_getElem_cons (by omega), (List.getElem?_eq_some_iff.1 hy).2]
  unfold ins
  rw [h1, h2, List.append_assoc]
  have hl : (A.take k).length = k := by rw [List.length_take]; omega
  rw [List.set_append_right _ _ (by omega), List.set_append_right _ _ (by omega), hl, Nat.sub_self, show k + 1 - k = 1 by omega]
  rfl

variable {lt : α → α → Bool}
/-- In order: none is ahead of one that stands to its left. -/
def Ord (lt : α → α → Bool) (l : List α) : Prop := l.Pairwise fun a b => lt b a = false
theorem ord_nil : Ord lt [] := List.Pairwise.nil
theorem ins_ord (has : ∀ a b, lt a b = true → lt b a = false) (htr : ∀ a b c, lt b a = false → lt c b = false → lt c a = false) {A : List α} {x : α} {k : Nat} (hA : Ord lt A) (hk : k ≤ A.length) (hr : ∀ y ∈ A.drop k, lt x y = true) (hl : k = 0 ∨ ∃ y, A[k - 1]? = some y ∧ lt x y = false) : Ord lt (ins A x k) := by
  have hA' := hA
  unfold Ord at hA'
  rw [← List.take_append_drop k A, List.pairwise_append] at hA'
  obtain ⟨h1, h2, h3⟩ := hA'
  have hx : ∀ a ∈ A.take k, lt x a = false := by
    intro a ha
    rcases hl with rfl | ⟨y, hy, hxy⟩
    · simp at ha
    · rcases Nat.eq_zero_or_pos k with rfl | hk0
      · simp at ha
      · have e : A.take k = A.take (k - 1) ++ [y] := by
          have := List.take_add_one (l := A) (i := k - 1)
          rw [show k - 1 + 1 = k by omega, hy] at this
          exact this
        rw [e] at ha h1
        rw [List.pairwise_append] at h1
        rcases List.mem_append.1 ha with h | h
        · exact htr a y x (h1.2.2 a h y (by simp)) hxy
        · rw [List.mem_singleton.1 h]; exact hxy
  unfold Ord ins
  rw [List.pairwise_append, List.pairwise_cons]
  refine ⟨h1, ⟨fun y hy => has _ _ (hr y hy), h2⟩, fun a ha b hb => ?_⟩
  rcases List.mem_cons.1 hb with rfl | hb
  · exact hx a ha
  · exact h3 a ha b hb
theorem ins_right {A : List α} {x y : α} {k : Nat} (hk : k + 1 ≤ A.length) (hy : A[k]? = some y) (hr : ∀ z ∈ A.drop (k + 1), lt x z = true) (hxy : lt x y = true) : ∀ z ∈ A.drop k, lt x z = true := by
  rw [List.drop_eq_getElem_cons (by omega), (List.getElem?_eq_some_iff.1 hy).2]
  intro z hz
  rcases List.mem_cons.1 hz with rfl | hz
  · exact hxy
  · exact hr z hz
theorem ord_unique (han : ∀ a b, lt a b = false → lt b a = false → a = b) {l m : List α} (h1 : Ord lt l) (h2 : Ord lt m) (hp : l.Perm m) : l = m :=
  hp.eq_of_pairwise (fun a b _ _ h h' => han a b h' h) h1 h2
end

theorem lt3_asymm (a b : T3) (h : lt3 a b = true) : lt3 b a = false := by
  obtain ⟨a, c, e⟩ := a
  obtain ⟨b, d, f⟩ := b
  unfold lt3 at *
  simp only [ne_eq] at *
  by_cases h1 : a = b
  · subst h1
    by_cases h2 : c = d
    · subst h2
      simp at *
      omega
    · have h3 : ¬ d = c := fun e => h2 e.symm
      simp [h2, h3] at *
      omega
  · have h3 : ¬ b = a := fun e => h1 e.symm
    simp [h1, h3] at *
    omega
theorem lt3_iff (a b : T3) : lt3 a b = true ↔ a.1 < b.1 ∨ (a.1 = b.1 ∧ (a.2.1 < b.2.1 ∨ (a.2.1 = b.2.1 ∧ a.2.2 < b.2.2))) := by
  unfold lt3
  split
  · rename_i h; simp only [decide_eq_true_eq]; constructor
    · intro h2; exact .inl h2
    · rintro (h2 | ⟨h2, _⟩)
      · exact h2
      · exact absurd h2 h
  · rename_i h
    have h : a.1 = b.1 := by simpa using h
    split
    · rename_i h1; simp only [decide_eq_true_eq]; constructor
      · intro h2; exact .inr ⟨h, .inl h2⟩
      · rintro (h2 | ⟨_, h2 | ⟨h2, _⟩⟩)
        · omega
        · exact h2
        · exact absurd h2 h1
    · rename_i h1
      have h1 : a.2.1 = b.2.1 := by simpa using h1
      simp only [decide_eq_true_eq]; constructor
      · intro h2; exact .inr ⟨h, .inr ⟨h1, h2⟩⟩
      · rintro (h2 | ⟨_, h2 | ⟨_, h2⟩⟩) <;> omega
theorem lt3_niff (a b : T3) : lt3 a b = false ↔ ¬ (a.1 < b.1 ∨ (a.1 = b.1 ∧ (a.2.1 < b.2.1 ∨ (a.2.1 = b.2.1 ∧ a.2.2 < b.2.2)))) := by
  rw [← lt3_iff, Bool.not_eq_true]
theorem lt3_trans (a b c : T3) (h1 : lt3 b a = false) (h2 : lt3 c b = false) : lt3 c a = false := by
  rw [lt3_niff] at *
  omega
theorem lt3_anti (a b : T3) (h1 : lt3 a b = false) (h2 : lt3 b a = false) : a = b := by
  rw [lt3_niff] at h1 h2
  exact Prod.ext (by omega) (Prod.ext (by omega) (by omega))

/-- A cell of a row of a call's own, put anew. -/
theorem own_set {w : World} {base g cap n sz : Nat} {e : TypeId} {xs : List Value} (h : w.ownsRow base e sz (.slice (some ⟨g, 0, none⟩) n cap) n xs) (o : Nat) (u : Value) :
    (o < n * sz → (w.setCell ⟨g, o, none⟩ u).ownsRow base e sz (.slice (some ⟨g, 0, none⟩) n cap) n (xs.set o u)) := by
  intro ho
  rcases h.2 with ⟨h0, _⟩ | ⟨g', cap', cur, hv, h1, h2, h3, h4, h5, h6⟩
  · cases h0
  · cases hv
    refine ⟨by rw [List.length_set]; exact h.1, .inr ⟨g, cap, cur.setIfInBounds o u, rfl, h1, blk_setCell h2 o u, h3, h4, by rw [Array.size_setIfInBounds]; exact h5, ?_⟩⟩
    rw [Array.toList_setIfInBounds, ← h6, List.take_set]
theorem cells3_set (L : List T3) (i : Nat) (t : T3) : (((cells3 L).set (i * 3) (.int .i64 t.1)).set (i * 3 + 1) (.int .i64 t.2.1)).set (i * 3 + 2) (.int .i64 t.2.2) = cells3 (L.set i t) := by
  induction L generalizing i with
  | nil => simp [cells3]
  | cons u us ih =>
    cases i with
    | zero => simp [cells3]
    | succ i =>
      have e : (i + 1) * 3 = i * 3 + 1 + 1 + 1 := by omega
      rw [e]
      simp only [cells3, List.set_cons_succ]
      rw [ih i]
/-- An item of a row, put anew. -/
theorem own_set3 {w : World} {base g cap n : Nat} {L : List T3} (h : w.ownsRow base 25 3 (.slice (some ⟨g, 0, none⟩) n cap) n (cells3 L)) {i : Nat} (hi : i < n) (t : T3) :
    (((w.setCell ⟨g, i * 3, none⟩ (.int .i64 t.1)).setCell ⟨g, i * 3 + 1, none⟩ (.int .i64 t.2.1)).setCell ⟨g, i * 3 + 2, none⟩ (.int .i64 t.2.2)).ownsRow base 25 3 (.slice (some ⟨g, 0, none⟩) n cap) n (cells3 (L.set i t)) := by
  have h1 := own_set (own_set (own_set h (i * 3) (.int .i64 t.1) (by omega)) (i * 3 + 1) (.int .i64 t.2.1) (by omega)) (i * 3 + 2) (.int .i64 t.2.2) (by omega)
  rw [cells3_set] at h1
  exact h1

end Go.Proofs.YtmmmknmncdlopaaDoor
