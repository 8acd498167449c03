/- Merging up, in plain terms: one round over the map, and the rounds together. No condition. -/
import Derived.Test.YtdkknlnlfaoapaaSets
import Derived.Test.YtdkknlnlfaoapaaKids
namespace Go.Proofs.Ytdkknlnlfaoapaa

def par (t : T3) : T3 := (t.1 / 2, t.2.1 / 2, t.2.2 - 1)
def kidsT (p : T3) : List T3 := kids p.1 p.2.1 p.2.2
theorem mem_kidsT (t p : T3) : t ∈ kidsT p ↔ par t = p := by
  obtain ⟨a, b, c⟩ := t; obtain ⟨x, y, z⟩ := p
  simp only [kidsT, kids, par, List.mem_cons, List.not_mem_nil, or_false, Prod.mk.injEq]
  omega
theorem kidsT_nodup (p : T3) : (kidsT p).Nodup := by
  simp [kidsT, kids]; omega
def grp (f : T3 → Bool) (p : T3) : Nat := (kidsT p).countP f
theorem grp_pos {f : T3 → Bool} {t : T3} (h : f t = true) : 0 < grp f (par t) := List.countP_pos_iff.2 ⟨t, (mem_kidsT t _).2 rfl, h⟩
theorem grp_pos_iff {f : T3 → Bool} {p : T3} : 0 < grp f p ↔ ∃ t, par t = p ∧ f t = true := by
  rw [grp, List.countP_pos_iff]
  exact ⟨fun ⟨t, h, k⟩ => ⟨t, (mem_kidsT t p).1 h, k⟩, fun ⟨t, h, k⟩ => ⟨t, (mem_kidsT t p).2 h, k⟩⟩

/-- Stores of 'false', of 'true', at those of some keys that a test picks. -/
def clr (bs : T3 → Bool) (L : List T3) (l : Ents) : Ents := L.foldl (fun l s => if bs s then putB l s false else l) l
def mrk (bs : T3 → Bool) (L : List T3) (l : Ents) : Ents := L.foldl (fun l s => if bs s then putB l s true else l) l

theorem putB_prefix (l : Ents) (t : T3) (b : Bool) : ∃ e, (putB l t b).map (·.1) = l.map (·.1) ++ e ∧ e.length ≤ 1 ∧ ∀ u ∈ e, u = t := by
  rw [keys_put]
  split
  · exact ⟨[], by simp, by simp, by simp⟩
  · exact ⟨[t], rfl, by simp, by simp⟩
theorem clr_law (bs : T3 → Bool) : ∀ (L : List T3) (l : Ents), (l.map (·.1)).Nodup → ((clr bs L l).map (·.1)).Nodup ∧ (∀ u, getB (clr bs L l) u = if u ∈ L ∧ bs u = true then false else getB l u) ∧
    ∃ e, (clr bs L l).map (·.1) = l.map (·.1) ++ e ∧ e.length ≤ L.length ∧ ∀ u ∈ e, u ∈ L
  | [], l, nd => ⟨nd, by simp [clr], [], by simp [clr]⟩
  | s :: L, l, nd => by
    have hstep : clr bs (s :: L) l = clr bs L (if bs s then putB l s false else l) := rfl
    rw [hstep]
    by_cases hb : bs s = true
    · simp only [hb, if_true]
      obtain ⟨e0, p0, q0, r0⟩ := putB_prefix l s false
      obtain ⟨h1, h2, e, h3, h4, h5⟩ := clr_law bs L (putB l s false) (nodup_put l s false nd)
      refine ⟨h1, fun u => ?_, e0 ++ e, by rw [h3, p0, List.append_assoc], by simp; omega, fun u hu => ?_⟩
      · rw [h2 u, getB_put l s u false nd]
        by_cases hu : u = s
        · subst hu; simp [hb]
        · simp [hu]
      · rcases List.mem_append.1 hu with h | h
        · exact List.mem_cons.2 (.inl (r0 u h))
        · exact List.mem_cons.2 (.inr (h5 u h))
    · simp only [hb, if_false, Bool.false_eq_true]
      obtain ⟨h1, h2, e, h3, h4, h5⟩ := clr_law bs L l nd
      refine ⟨h1, fun u => ?_, e, h3, by simp; omega, fun u hu => List.mem_cons.2 (.inr (h5 u hu))⟩
      rw [h2 u]
      by_cases hu : u = s
      · subst hu; simp [hb]
      · simp [hu]
theorem mrk_law (bs : T3 → Bool) : ∀ (L : List T3) (l : Ents), (l.map (·.1)).Nodup → ((mrk bs L l).map (·.1)).Nodup ∧ (∀ u, getB (mrk bs L l) u = (getB l u || (decide (u ∈ L) && bs u))) ∧
    ∃ e, (mrk bs L l).map (·.1) = l.map (·.1) ++ e ∧ ∀ u ∈ e, u ∈ L
  | [], l, nd => ⟨nd, by simp [mrk], [], by simp [mrk]⟩
  | s :: L, l, nd => by
    have hstep : mrk bs (s :: L) l = mrk bs L (if bs s then putB l s true else l) := rfl
    rw [hstep]
    by_cases hb : bs s = true
    · simp only [hb, if_true]
      obtain ⟨e0, p0, q0, r0⟩ := putB_prefix l s true
      obtain ⟨h1, h2, e, h3, h5⟩ := mrk_law bs L (putB l s true) (nodup_put l s true nd)
      refine ⟨h1, fun u => ?_, e0 ++ e, by rw [h3, p0, List.append_assoc], fun u hu => ?_⟩
      · rw [h2 u, getB_put l s u true nd]
        by_cases hu : u = s
        · subst hu; simp [hb]
        · simp [hu]
      · rcases List.mem_append.1 hu with h | h
        · exact List.mem_cons.2 (.inl (r0 u h))
        · exact List.mem_cons.2 (.inr (h5 u h))
    · simp only [hb, if_false, Bool.false_eq_true]
      obtain ⟨h1, h2, e, h3, h5⟩ := mrk_law bs L l nd
      refine ⟨h1, fun u => ?_, e, h3, fun u hu => List.mem_cons.2 (.inr (h5 u hu))⟩
      rw [h2 u]
      by_cases hu : u = s
      · subst hu; simp [hb]
      · simp [hu]
theorem getB_at {l : Ents} (nd : (l.map (·.1)).Nodup) {i : Nat} {t : T3} {v : Bool} (h : l[i]? = some (t, v)) : getB l t = v := by
  have hk : (l.map (·.1))[i]? = some t := by simp [h]
  unfold getB
  cases hs : seek t l 0 with
  | none => exact absurd rfl ((seek_none t l).1 hs (t, v) (List.mem_of_getElem? h))
  | some p =>
    obtain ⟨j, c⟩ := p
    have hj := seek_some t l j c hs
    have hkj : (l.map (·.1))[j]? = some t := by simp [hj]
    obtain ⟨h1, e1⟩ := List.getElem?_eq_some_iff.1 hk
    obtain ⟨h2, e2⟩ := List.getElem?_eq_some_iff.1 hkj
    have : i = j := by
      rcases Nat.lt_trichotomy i j with h | h | h
      · exact absurd (e1.trans e2.symm) (List.pairwise_iff_getElem.1 nd i j h1 h2 h)
      · exact h
      · exact absurd (e2.trans e1.symm) (List.pairwise_iff_getElem.1 nd j i h2 h1 h)
    subst this
    rw [h] at hj
    have := congrArg Prod.snd (Option.some.inj hj)
    exact this.symm
theorem getB_mem {l : Ents} {t : T3} (h : getB l t = true) : (t, true) ∈ l := by
  unfold getB at h
  cases hs : seek t l 0 with
  | none => rw [hs] at h; cases h
  | some p =>
    obtain ⟨j, c⟩ := p
    rw [hs] at h
    dsimp only at h
    subst h
    exact List.mem_of_getElem? (seek_some t l j true hs)

def lev (z : Int) (t : T3) : Prop := t.2.2 = z ∧ 0 ≤ t.1 ∧ t.1 ≤ 31 ∧ 0 ≤ t.2.1 ∧ t.2.1 ≤ 31
theorem lev_par {z : Int} {t : T3} (h : lev z t) : lev (z - 1) (par t) := by
  obtain ⟨h1, h2, h3, h4, h5⟩ := h
  exact ⟨by simp [par, h1], by simp [par]; omega, by simp [par]; omega, by simp [par]; omega, by simp [par]; omega⟩
theorem lev_sib {z : Int} {t s : T3} (h : lev z t) (hs : s ∈ kidsT (par t)) : lev z s := by
  obtain ⟨h1, h2, h3, h4, h5⟩ := h
  have := (mem_kidsT s _).1 hs
  obtain ⟨a, b, c⟩ := s; obtain ⟨x, y, k⟩ := t
  simp only [par, Prod.mk.injEq] at this
  simp only at h1 h2 h3 h4 h5
  refine ⟨?_, ?_, ?_, ?_, ?_⟩ <;> dsimp only <;> omega

/-- Within one range over the map: which groups are done. -/
structure LInv (c : Nat) (top : Bool) (z : Int) (f0 g0 : T3 → Bool) (ks : List T3) (l m q : Ents) (seen : Array Nat) (D : List T3) : Prop where
  nl : (l.map (·.1)).Nodup
  nm : (m.map (·.1)).Nodup
  nq : (q.map (·.1)).Nodup
  hl : ∀ t, getB l t = (f0 t && !decide (par t ∈ D))
  hm : ∀ t, getB m t = (g0 t || (f0 t && decide (par t ∈ D) && decide (grp f0 (par t) < c)) || (top && decide (t ∈ D) && decide (c ≤ grp f0 t)))
  hq : ∀ t, getB q t = (!top && decide (t ∈ D) && decide (c ≤ grp f0 t))
  qt : ∀ e ∈ q, e.2 = true
  hD : ∀ p ∈ D, 0 < grp f0 p
  hk : ∃ e, l.map (·.1) = ks ++ e
  hs : ∀ i ∈ seen, ∃ t, (l.map (·.1))[i]? = some t ∧ (f0 t = true → par t ∈ D)
  gl : ∀ t ∈ l.map (·.1), lev z t
  gm : ∀ t ∈ m.map (·.1), ∃ k : Int, 0 ≤ k ∧ k ≤ 31 ∧ lev k t
  gq : ∀ t ∈ q.map (·.1), lev (z - 1) t

def unseen (l : Ents) (seen : Array Nat) : Nat := ((List.range l.length).filter fun i => !seen.contains i).length
def alive (f0 : T3 → Bool) (ks D : List T3) : Nat := (ks.filter fun t => f0 t && !decide (par t ∈ D)).length
def mu (f0 : T3 → Bool) (ks : List T3) (l : Ents) (seen : Array Nat) (D : List T3) : Nat := unseen l seen + 5 * alive f0 ks D

end Go.Proofs.Ytdkknlnlfaoapaa
