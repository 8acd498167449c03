/- The nearest of a list against its distances in order. Plain: no program. No condition. -/
import Derived.Test.YtmmmknmncdlopaaDoorLawInb
namespace Go.Proofs.YtmmmknmncdlopaaDoor
open Go.ChangeShapes Go.WideShapes Go.ChangeAt Go.RowKit

/-- The first of distances in order is the least. -/
theorem least_first {ls : List T3} {L : List Int} {d : T3 → Int} {x : T3} (hp : L.Perm (ls.map d)) (ho : Ord ltI L) (hx : x ∈ ls) (hm : ∀ r ∈ ls, d x ≤ d r) : L[0]? = some (d x) := by
  have hxL : d x ∈ L := hp.mem_iff.2 (List.mem_map_of_mem hx)
  cases L with
  | nil => cases hxL
  | cons a M =>
    have ha : a ∈ ls.map d := hp.mem_iff.1 (List.mem_cons_self ..)
    obtain ⟨r, hr, rfl⟩ := List.mem_map.1 ha
    have h1 := hm r hr
    unfold Ord at ho
    rw [List.pairwise_cons] at ho
    rcases List.mem_cons.1 hxL with h | h
    · rw [h]; rfl
    · have h2 := ho.1 _ h
      unfold ltI at h2
      have h3 : ¬ d x < d r := by simpa using h2
      rw [show d x = d r by omega]; rfl
theorem plst_mem (lo hi : T3) (ss : List S4) : ∀ i, ∀ x ∈ plst lo hi ss i, (∃ s ∈ ss, s.2 = x) ∧ inb lo hi x = true
  | 0 => by simp [plst]
  | i + 1 => by
    intro x hx
    cases e : ss[i]? with
    | none => rw [plst, e] at hx; exact plst_mem lo hi ss i x hx
    | some s =>
      rw [plst_succ e] at hx
      unfold pstep at hx
      split at hx
      · exact plst_mem lo hi ss i x (List.mem_of_mem_erase hx)
      · split at hx
        · rename_i hb
          rcases List.mem_append.1 hx with h | h
          · exact plst_mem lo hi ss i x h
          · rw [List.mem_singleton.1 h]; exact ⟨⟨s, List.mem_of_getElem? e, rfl⟩, hb⟩
        · exact plst_mem lo hi ss i x hx
theorem plst_sm (lo hi : T3) (ss : List S4) (h : ∀ s ∈ ss, Sm s.2) (i : Nat) : ∀ x ∈ plst lo hi ss i, Sm x := fun x hx => by
  obtain ⟨⟨s, hs, rfl⟩, _⟩ := plst_mem lo hi ss i x hx
  exact h s hs

/-- What is nearest, ascending: the first of the distances in order. -/
theorem near_prefix {d : T3 → Int} {R : List T3} : ∀ (us : List T3) (L : List Int), L.Perm ((us ++ R).map d) → us.Pairwise (fun p q => d p ≤ d q) → (∀ r ∈ R, ∀ u ∈ us, d u ≤ d r) → Ord ltI L → us.map d = L.take us.length
  | [], L => fun _ _ _ _ => by simp
  | u :: us, L => fun hp ha hR hO => by
    have hp2 := List.pairwise_cons.1 ha
    have h0 := least_first (x := u) hp hO (by simp) (fun r hr => by
      rcases List.mem_cons.1 hr with rfl | hr
      · exact Int.le_refl _
      · rcases List.mem_append.1 hr with h | h
        · exact hp2.1 r h
        · exact hR r h u (by simp))
    cases L with
    | nil => simp at h0
    | cons a M =>
      have e : a = d u := by simpa using h0
      subst e
      have h1 : M.Perm ((us ++ R).map d) := by
        rw [List.cons_append, List.map_cons] at hp
        exact (List.perm_cons _).1 hp
      have h2 := near_prefix us M h1 hp2.2 (fun r hr v hv => hR r hr v (List.mem_cons_of_mem _ hv)) (List.Pairwise.of_cons hO)
      rw [List.map_cons, List.length_cons, List.take_succ_cons, h2]
/-- Their number and their distances, where nothing bounds them. -/
theorem near_all {d : T3 → Int} {us R ls : List T3} {L : List Int} {k : Nat} {M : Int} (hp : (us ++ R).Perm ls) (ha : us.Pairwise (fun p q => d p ≤ d q)) (hk : us.length ≤ k) (hR : ∀ r ∈ R, M ≤ d r ∨ (us.length = k ∧ ∀ u ∈ us, d u ≤ d r)) (hM : ∀ x ∈ ls, d x < M) (hL : L.Perm (ls.map d)) (hO : Ord ltI L) :
    us.length = min k ls.length ∧ us.map d = L.take us.length := by
  have hR2 : ∀ r ∈ R, us.length = k ∧ ∀ u ∈ us, d u ≤ d r := fun r hr => by
    rcases hR r hr with h | h
    · have := hM r (hp.mem_iff.1 (List.mem_append.2 (.inr hr))); omega
    · exact h
  refine ⟨?_, near_prefix us L (hL.trans (hp.map d).symm) ha (fun r hr u hu => (hR2 r hr).2 u hu) hO⟩
  have hl := hp.length_eq
  rw [List.length_append] at hl
  cases R with
  | nil => rw [List.length_nil] at hl; omega
  | cons r R => have := (hR2 r (by simp)).1; omega
/-- Their distances, where M bounds them. -/
theorem near_within {d : T3 → Int} {us R ls : List T3} {L : List Int} {k : Nat} {M : Int} (hp : (us ++ R).Perm ls) (ha : us.Pairwise (fun p q => d p ≤ d q)) (hk : us.length ≤ k) (hR : ∀ r ∈ R, M ≤ d r ∨ (us.length = k ∧ ∀ u ∈ us, d u ≤ d r)) (hM : ∀ u ∈ us, d u < M) (hL : L.Perm (ls.map d)) (hO : Ord ltI L) :
    us.map d = (L.filter fun x => decide (x < M)).take k := by
  have h1 := near_prefix us L (hL.trans (hp.map d).symm) ha (fun r hr u hu => by
    rcases hR r hr with h | h
    · have := hM u hu; omega
    · exact h.2 u hu) hO
  have h2 : (L.drop us.length).Perm (R.map d) := by
    have h3 := hL.trans (hp.map d).symm
    rw [List.map_append, ← List.take_append_drop us.length L, ← h1] at h3
    exact (List.perm_append_left_iff _).1 h3
  have h4 : (us.map d).filter (fun x => decide (x < M)) = us.map d := List.filter_eq_self.2 fun x hx => by
    obtain ⟨u, hu, rfl⟩ := List.mem_map.1 hx
    exact decide_eq_true (hM u hu)
  rw [← List.take_append_drop us.length L, ← h1, List.filter_append, h4]
  by_cases he : us.length = k
  · rw [List.take_append_of_le_length (by simp; omega), List.take_of_length_le (by simp; omega)]
  · have h5 : (L.drop us.length).filter (fun x => decide (x < M)) = [] := List.filter_eq_nil_iff.2 fun x hx => by
      obtain ⟨r, hr, rfl⟩ := List.mem_map.1 (h2.mem_iff.1 hx)
      rcases hR r hr with h | h
      · simp; omega
      · exact absurd h.1 he
    rw [h5, List.append_nil, List.take_of_length_le (by simp; omega)]

end Go.Proofs.YtmmmknmncdlopaaDoor
