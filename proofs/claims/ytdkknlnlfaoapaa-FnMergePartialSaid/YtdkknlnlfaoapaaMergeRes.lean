/- Merging up: what all rounds give. No condition. -/
import Derived.Test.YtdkknlnlfaoapaaMergeMath
namespace Go.Proofs.Ytdkknlnlfaoapaa

def lvF (c : Nat) (f0 : T3 → Bool) : Nat → T3 → Bool
  | 0 => f0
  | k + 1 => fun t => decide (c ≤ grp (lvF c f0 k) t)
def lvG (c : Nat) (f0 : T3 → Bool) : Nat → T3 → Bool
  | 0 => fun _ => false
  | k + 1 => fun t => lvG c f0 k t || (lvF c f0 k t && decide (grp (lvF c f0 k) (par t) < c))
def res (c : Nat) (f0 : T3 → Bool) (K : Nat) (t : T3) : Bool := lvG c f0 K t || lvF c f0 K t

theorem grp_none {f : T3 → Bool} (h : ∀ t, f t = false) (p : T3) : grp f p = 0 := by
  rcases Nat.eq_zero_or_pos (grp f p) with e | e
  · exact e
  · obtain ⟨t, _, ht⟩ := grp_pos_iff.1 e
    rw [h t] at ht; cases ht
theorem lvF_none {c : Nat} (hc : 1 ≤ c) {f0 : T3 → Bool} {k : Nat} (h : ∀ t, lvF c f0 k t = false) : ∀ j t, lvF c f0 (k + j) t = false
  | 0, t => h t
  | j + 1, t => by
    show decide (c ≤ grp (lvF c f0 (k + j)) t) = false
    rw [grp_none (lvF_none hc h j) t]
    simp; omega
theorem lvG_none {c : Nat} (hc : 1 ≤ c) {f0 : T3 → Bool} {k : Nat} (h : ∀ t, lvF c f0 k t = false) : ∀ j t, lvG c f0 (k + j) t = lvG c f0 k t
  | 0, t => rfl
  | j + 1, t => by
    show (lvG c f0 (k + j) t || (lvF c f0 (k + j) t && decide (grp (lvF c f0 (k + j)) (par t) < c))) = _
    rw [lvF_none hc h j t, lvG_none hc h j t]
    simp
theorem res_none {c : Nat} (hc : 1 ≤ c) {f0 : T3 → Bool} (h : ∀ t, f0 t = false) (K : Nat) (t : T3) : res c f0 K t = false := by
  have a := lvF_none (k := 0) hc h K t
  have b := lvG_none (k := 0) hc h K t
  rw [Nat.zero_add] at a b
  unfold res; rw [a, b]; rfl
theorem res_break {c : Nat} (hc : 1 ≤ c) {f0 : T3 → Bool} {k : Nat} (h : ∀ p, grp (lvF c f0 k) p < c) : ∀ j t, res c f0 (k + j) t = (lvG c f0 k t || lvF c f0 k t)
  | 0, t => rfl
  | j + 1, t => by
    have h1 : ∀ t, lvF c f0 (k + 1) t = false := fun t => by
      have := h t
      show decide (c ≤ grp (lvF c f0 k) t) = false
      simp; omega
    have a := lvF_none hc h1 j t
    have b := lvG_none hc h1 j t
    unfold res
    rw [show k + (j + 1) = k + 1 + j by omega, a, b]
    show (lvG c f0 k t || (lvF c f0 k t && decide (grp (lvF c f0 k) (par t) < c)) || false) = _
    simp [h (par t)]

theorem length_le_of_sub : ∀ (L K : List T3), L.Nodup → (∀ t ∈ L, t ∈ K) → L.length ≤ K.length
  | [], K, _, _ => by simp
  | a :: L, K, nd, h => by
    have ha := h a (by simp)
    have := length_le_of_sub L (K.erase a) (List.nodup_cons.1 nd).2 (fun t ht => by
      have hne : t ≠ a := fun e => (List.nodup_cons.1 nd).1 (e ▸ ht)
      exact (List.mem_erase_of_ne hne).2 (h t (List.mem_cons.2 (.inr ht))))
    have hl := List.length_erase_of_mem ha
    have : 0 < K.length := List.length_pos_of_mem ha
    simp only [List.length_cons]; omega
theorem grp_le (q : Ents) (p : T3) : grp (getB q) p ≤ q.length := by
  rw [grp, List.countP_eq_length_filter]
  have hlen : q.length = (q.map (·.1)).length := by simp
  rw [hlen]
  refine length_le_of_sub _ _ ((kidsT_nodup p).filter _) fun t ht => ?_
  exact List.mem_map.2 ⟨_, getB_mem (List.mem_filter.1 ht).2, rfl⟩
theorem grp_congr {f g : T3 → Bool} (h : ∀ t, f t = g t) (p : T3) : grp f p = grp g p := by
  rw [show f = g from funext h]

end Go.Proofs.Ytdkknlnlfaoapaa
