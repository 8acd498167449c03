/- Merging up: the steps of a round, and what stands at its end. No condition. -/
import Derived.Test.YtdkknlnlfaoapaaMergeMath
namespace Go.Proofs.Ytdkknlnlfaoapaa

theorem lev_kids {z : Int} {p : T3} (hp : ∃ t, lev z t ∧ par t = p) : ∀ s ∈ kidsT p, lev z s := by
  obtain ⟨t, ht, rfl⟩ := hp
  exact fun s hs => lev_sib ht hs

theorem prefix_get {α : Type} {a b : List α} {i : Nat} {t : α} (e : List α) (h : b = a ++ e) (hi : a[i]? = some t) : b[i]? = some t := by
  have := (List.getElem?_eq_some_iff.1 hi).1
  rw [h, List.getElem?_append_left this]; exact hi

theorem LInv.skip {c : Nat} {top : Bool} {z : Int} {f0 g0 : T3 → Bool} {ks : List T3} {l m q : Ents} {seen : Array Nat} {D : List T3} (h : LInv c top z f0 g0 ks l m q seen D) {i : Nat} {t : T3} (hi : l[i]? = some (t, false)) :
    LInv c top z f0 g0 ks l m q (seen.push i) D := by
  refine { h with hs := fun j hj => ?_ }
  rcases Array.mem_push.1 hj with hj | rfl
  · exact h.hs j hj
  · refine ⟨t, by simp [hi], fun hf => ?_⟩
    have := h.hl t
    rw [getB_at h.nl hi, hf] at this
    simpa using this.symm

theorem LInv.full {c : Nat} {top : Bool} {z : Int} {f0 g0 : T3 → Bool} {ks : List T3} {l m q : Ents} {seen : Array Nat} {D : List T3} (h : LInv c top z f0 g0 ks l m q seen D) {i : Nat} {t : T3} (hi : l[i]? = some (t, true)) (hz : 1 ≤ z ∧ z ≤ 31) (hc : c ≤ grp f0 (par t)) :
    LInv c top z f0 g0 ks (clr (fun _ => true) (kidsT (par t)) l) (if top then putB m (par t) true else m) (if top then q else putB q (par t) true) (seen.push i) (par t :: D) := by
  obtain ⟨n1, n2, e, n3, n4, n5⟩ := clr_law (fun _ => true) (kidsT (par t)) l h.nl
  have hft : f0 t = true ∧ par t ∉ D := by
    have := h.hl t
    rw [getB_at h.nl hi] at this
    simpa using this.symm
  have hkey : t ∈ l.map (·.1) := List.mem_map.2 ⟨_, List.mem_of_getElem? hi, rfl⟩
  have hlev := h.gl t hkey
  refine ⟨n1, ?_, ?_, fun u => ?_, fun u => ?_, fun u => ?_, ?_, ?_, ?_, ?_, ?_, ?_, ?_⟩
  · split
    · exact nodup_put _ _ _ h.nm
    · exact h.nm
  · split
    · exact h.nq
    · exact nodup_put _ _ _ h.nq
  · rw [n2 u, h.hl u]
    simp only [mem_kidsT, List.mem_cons, and_true]
    by_cases hu : par u = par t
    · simp [hu]
    · simp [hu]
  · cases top
    · simp only [Bool.false_eq_true, if_false, h.hm u, List.mem_cons, Bool.false_and, Bool.or_false]
      by_cases hu : par u = par t
      · have : ¬ grp f0 (par t) < c := by omega
        simp [hu, this]
      · simp [hu]
    · simp only [if_true, getB_put _ _ _ _ h.nm, h.hm u, List.mem_cons, Bool.true_and]
      have hn : ¬ grp f0 (par t) < c := by omega
      by_cases hu : par u = par t
      · by_cases hv : u = par t
        · rw [if_pos hv]; subst hv; simp [hc]
        · simp [hu, hn, hv]
      · by_cases hv : u = par t
        · rw [if_pos hv]; subst hv; simp [hc]
        · simp [hu, hv]
  · cases top
    · simp only [Bool.false_eq_true, if_false, getB_put _ _ _ _ h.nq, h.hq u, List.mem_cons, Bool.not_false, Bool.true_and]
      by_cases hv : u = par t
      · subst hv; simp [hc]
      · simp [hv]
    · simp only [if_true, h.hq u]; simp
  · intro e he
    cases top
    · simp only [Bool.false_eq_true, if_false] at he
      unfold putB at he
      split at he
      · rcases List.mem_or_eq_of_mem_set he with he | rfl
        · exact h.qt e he
        · rfl
      · rcases List.mem_append.1 he with he | he
        · exact h.qt e he
        · rw [List.mem_singleton.1 he]
    · simp only [if_true] at he; exact h.qt e he
  · intro p hp
    rcases List.mem_cons.1 hp with rfl | hp
    · exact grp_pos hft.1
    · exact h.hD p hp
  · obtain ⟨e', he'⟩ := h.hk
    exact ⟨e' ++ e, by rw [n3, he', List.append_assoc]⟩
  · intro j hj
    rcases Array.mem_push.1 hj with hj | rfl
    · obtain ⟨u, h1, h2⟩ := h.hs j hj
      exact ⟨u, prefix_get e n3 h1, fun hu => List.mem_cons.2 (.inr (h2 hu))⟩
    · exact ⟨t, prefix_get e n3 (by simp [hi]), fun _ => List.mem_cons.2 (.inl rfl)⟩
  · intro u hu
    rw [n3] at hu
    rcases List.mem_append.1 hu with hu | hu
    · exact h.gl u hu
    · exact lev_sib hlev (n5 u hu)
  · intro u hu
    have hp := lev_par hlev
    cases top
    · simp only [Bool.false_eq_true, if_false] at hu; exact h.gm u hu
    · simp only [if_true] at hu
      obtain ⟨e, p1, p2, p3⟩ := putB_prefix m (par t) true
      rw [p1] at hu
      rcases List.mem_append.1 hu with hu | hu
      · exact h.gm u hu
      · rw [p3 u hu]; exact ⟨z - 1, by omega, by omega, hp⟩
  · intro u hu
    have hp := lev_par hlev
    cases top
    · simp only [Bool.false_eq_true, if_false] at hu
      obtain ⟨e, p1, p2, p3⟩ := putB_prefix q (par t) true
      rw [p1] at hu
      rcases List.mem_append.1 hu with hu | hu
      · exact h.gq u hu
      · rw [p3 u hu]; exact hp
    · simp only [if_true] at hu; exact h.gq u hu

theorem LInv.part {c : Nat} {top : Bool} {z : Int} {f0 g0 : T3 → Bool} {ks : List T3} {l m q : Ents} {seen : Array Nat} {D : List T3} (h : LInv c top z f0 g0 ks l m q seen D) {i : Nat} {t : T3} (hi : l[i]? = some (t, true)) (hz : 1 ≤ z ∧ z ≤ 31) (hc : grp f0 (par t) < c) :
    LInv c top z f0 g0 ks (clr f0 (kidsT (par t)) l) (mrk f0 (kidsT (par t)) m) q (seen.push i) (par t :: D) := by
  obtain ⟨n1, n2, e, n3, n4, n5⟩ := clr_law f0 (kidsT (par t)) l h.nl
  obtain ⟨m1, m2, e', m3, m5⟩ := mrk_law f0 (kidsT (par t)) m h.nm
  have hft : f0 t = true ∧ par t ∉ D := by
    have := h.hl t
    rw [getB_at h.nl hi] at this
    simpa using this.symm
  have hkey : t ∈ l.map (·.1) := List.mem_map.2 ⟨_, List.mem_of_getElem? hi, rfl⟩
  have hlev := h.gl t hkey
  have hn : ¬ c ≤ grp f0 (par t) := by omega
  refine ⟨n1, m1, h.nq, fun u => ?_, fun u => ?_, fun u => ?_, h.qt, ?_, ?_, ?_, ?_, ?_, h.gq⟩
  · rw [n2 u, h.hl u]
    simp only [mem_kidsT, List.mem_cons]
    by_cases hu : par u = par t
    · cases f0 u <;> simp [hu]
    · simp [hu]
  · rw [m2 u, h.hm u]
    simp only [mem_kidsT, List.mem_cons]
    by_cases hu : par u = par t
    · have hd : par t ∉ D := hft.2
      by_cases hv : u = par t
      · subst hv; simp [hu, hd, hc, hn]
      · simp [hu, hd, hc, hv]
        cases g0 u <;> cases f0 u <;> simp
    · by_cases hv : u = par t
      · subst hv; simp [hu, hn]
      · simp [hu, hv]
  · rw [h.hq u]
    simp only [List.mem_cons]
    by_cases hv : u = par t
    · subst hv; simp [hn]
    · simp [hv]
  · intro p hp
    rcases List.mem_cons.1 hp with rfl | hp
    · exact grp_pos hft.1
    · exact h.hD p hp
  · obtain ⟨e', he'⟩ := h.hk
    exact ⟨e' ++ e, by rw [n3, he', List.append_assoc]⟩
  · intro j hj
    rcases Array.mem_push.1 hj with hj | rfl
    · obtain ⟨u, h1, h2⟩ := h.hs j hj
      exact ⟨u, prefix_get e n3 h1, fun hu => List.mem_cons.2 (.inr (h2 hu))⟩
    · exact ⟨t, prefix_get e n3 (by simp [hi]), fun _ => List.mem_cons.2 (.inl rfl)⟩
  · intro u hu
    rw [n3] at hu
    rcases List.mem_append.1 hu with hu | hu
    · exact h.gl u hu
    · exact lev_sib hlev (n5 u hu)
  · intro u hu
    rw [m3] at hu
    rcases List.mem_append.1 hu with hu | hu
    · exact h.gm u hu
    · exact ⟨z, by omega, by omega, lev_sib hlev (m5 u hu)⟩

/-- What the look-ups in a round give: as it was at the start. -/
theorem LInv.look {c : Nat} {top : Bool} {z : Int} {f0 g0 : T3 → Bool} {ks : List T3} {l m q : Ents} {seen : Array Nat} {D : List T3} (h : LInv c top z f0 g0 ks l m q seen D) {i : Nat} {t : T3} (hi : l[i]? = some (t, true)) (s : T3) (hs : par s = par t) :
    getB l s = f0 s := by
  have hft : f0 t = true ∧ par t ∉ D := by
    have := h.hl t
    rw [getB_at h.nl hi] at this
    simpa using this.symm
  rw [h.hl s, hs]
  simp [hft.2]

theorem unseen_push (l : Ents) (seen : Array Nat) (i : Nat) (hi : i < l.length) (hn : i ∉ seen) : unseen l (seen.push i) < unseen l seen := by
  unfold unseen
  have e : ((List.range l.length).filter fun j => !(seen.push i).contains j) = ((List.range l.length).filter fun j => !seen.contains j).filter fun j => decide (j ≠ i) := by
    rw [List.filter_filter]
    apply List.filter_congr
    intro j _
    by_cases h : j = i
    · subst h; simp
    · by_cases hj : j ∈ seen <;> simp [h, hj]
  rw [e]
  have hm : i ∈ (List.range l.length).filter fun j => !seen.contains j := List.mem_filter.2 ⟨List.mem_range.2 hi, by simpa using hn⟩
  have hle := List.length_filter_le (fun j => decide (j ≠ i)) ((List.range l.length).filter fun j => !seen.contains j)
  rcases Nat.lt_or_ge (((List.range l.length).filter fun j => !seen.contains j).filter fun j => decide (j ≠ i)).length ((List.range l.length).filter fun j => !seen.contains j).length with h | h
  · exact h
  · exfalso
    have := (List.length_filter_eq_length_iff.1 (Nat.le_antisymm hle h)) i hm
    simp at this
theorem unseen_grow (l l' : Ents) (seen : Array Nat) (k : Nat) (h : l'.length ≤ l.length + k) : unseen l' seen ≤ unseen l seen + k := by
  unfold unseen
  have hr : ∀ n k : Nat, ((List.range (n + k)).filter fun i => !seen.contains i).length ≤ ((List.range n).filter fun i => !seen.contains i).length + k := by
    intro n k
    induction k with
    | zero => simp
    | succ k ih =>
      rw [← Nat.add_assoc, List.range_succ, List.filter_append, List.length_append]
      have := List.length_filter_le (fun i => !seen.contains i) [n + k]
      simp only [List.length_singleton] at this
      omega
  rcases Nat.lt_or_ge l'.length l.length with h1 | h1
  · have := hr l'.length (l.length - l'.length)
    have e : l'.length + (l.length - l'.length) = l.length := by omega
    have hmono : ((List.range l'.length).filter fun i => !seen.contains i).length ≤ ((List.range l.length).filter fun i => !seen.contains i).length := by
      rw [← e, List.range_add, List.filter_append, List.length_append]; omega
    omega
  · have := hr l.length (l'.length - l.length)
    rw [show l.length + (l'.length - l.length) = l'.length by omega] at this
    omega
theorem alive_done (f0 : T3 → Bool) (ks D : List T3) (t : T3) (ht : t ∈ ks) (hf : f0 t = true) (hn : par t ∉ D) : alive f0 ks (par t :: D) < alive f0 ks D := by
  unfold alive
  have e : (ks.filter fun u => f0 u && !decide (par u ∈ par t :: D)) = (ks.filter fun u => f0 u && !decide (par u ∈ D)).filter fun u => decide (par u ≠ par t) := by
    rw [List.filter_filter]
    apply List.filter_congr
    intro u _
    by_cases h : par u = par t
    · simp [h]
    · simp [h]
  rw [e]
  have hm : t ∈ ks.filter fun u => f0 u && !decide (par u ∈ D) := List.mem_filter.2 ⟨ht, by simp [hf, hn]⟩
  have hle := List.length_filter_le (fun u => decide (par u ≠ par t)) (ks.filter fun u => f0 u && !decide (par u ∈ D))
  rcases Nat.lt_or_ge ((ks.filter fun u => f0 u && !decide (par u ∈ D)).filter fun u => decide (par u ≠ par t)).length (ks.filter fun u => f0 u && !decide (par u ∈ D)).length with h | h
  · exact h
  · exfalso
    have := (List.length_filter_eq_length_iff.1 (Nat.le_antisymm hle h)) t hm
    simp at this

theorem mu_skip (f0 : T3 → Bool) (ks : List T3) (l : Ents) (seen : Array Nat) (D : List T3) (i : Nat) (hi : i < l.length) (hn : i ∉ seen) : mu f0 ks l (seen.push i) D < mu f0 ks l seen D := by
  have := unseen_push l seen i hi hn
  unfold mu; omega
theorem mu_done (f0 : T3 → Bool) (ks : List T3) (l : Ents) (seen : Array Nat) (D : List T3) (i : Nat) (t : T3) (bs : T3 → Bool) (hi : i < l.length) (hn : i ∉ seen) (nd : (l.map (·.1)).Nodup) (ht : t ∈ ks) (hf : f0 t = true) (hd : par t ∉ D) :
    mu f0 ks (clr bs (kidsT (par t)) l) (seen.push i) (par t :: D) < mu f0 ks l seen D := by
  obtain ⟨_, _, e, h3, h4, _⟩ := clr_law bs (kidsT (par t)) l nd
  have hl : (clr bs (kidsT (par t)) l).length ≤ l.length + 4 := by
    have := congrArg List.length h3
    simp only [List.length_map, List.length_append] at this
    have h5 : (kidsT (par t)).length = 4 := rfl
    omega
  have a := unseen_grow l (clr bs (kidsT (par t)) l) (seen.push i) 4 hl
  have b := unseen_push l seen i hi hn
  have c := alive_done f0 ks D t ht hf hd
  unfold mu; omega

end Go.Proofs.Ytdkknlnlfaoapaa
