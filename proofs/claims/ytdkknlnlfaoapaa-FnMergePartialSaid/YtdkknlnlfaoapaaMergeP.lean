/- What merging up gives, in plain terms: the law of the three statements. No condition. -/
import Derived.Test.YtdkknlnlfaoapaaMergeRes
namespace Go.Proofs.Ytdkknlnlfaoapaa

/-- The tile over a tile, k levels up. -/
def up (k : Nat) (t : T3) : T3 := (t.1 / 2 ^ k, t.2.1 / 2 ^ k, t.2.2 - k)
theorem up_zero (t : T3) : up 0 t = t := by
  obtain ⟨x, y, z⟩ := t
  simp [up]
theorem up_succ (k : Nat) (t : T3) : up (k + 1) t = par (up k t) := by
  obtain ⟨x, y, z⟩ := t
  simp only [up, par, Prod.mk.injEq]
  refine ⟨?_, ?_, by omega⟩
  · rw [Int.pow_succ, Int.ediv_ediv_of_nonneg (Int.pow_nonneg (by omega))]
  · rw [Int.pow_succ, Int.ediv_ediv_of_nonneg (Int.pow_nonneg (by omega))]
theorem up_add (a b : Nat) (t : T3) : up b (up a t) = up (a + b) t := by
  induction b with
  | zero => rw [up_zero]; rfl
  | succ b ih => rw [up_succ, ih, ← up_succ]; rfl

section
variable {c : Nat} {f0 : T3 → Bool} {n : Int}
theorem lvF_lev (hc : 1 ≤ c) (h0 : ∀ t, f0 t = true → t.2.2 = n) : ∀ (k : Nat) (t : T3), lvF c f0 k t = true → t.2.2 = n - k
  | 0, t, h => by have := h0 t h; simpa using this
  | k + 1, t, h => by
    have h1 : c ≤ grp (lvF c f0 k) t := by simpa [lvF] using h
    obtain ⟨s, hs, hf⟩ := grp_pos_iff.1 (show 0 < grp (lvF c f0 k) t by omega)
    have := lvF_lev hc h0 k s hf
    rw [← hs]
    simp only [par]; omega
theorem lvG_iff : ∀ (K : Nat) (t : T3), lvG c f0 K t = true ↔ ∃ k, k < K ∧ lvF c f0 k t = true ∧ grp (lvF c f0 k) (par t) < c
  | 0, t => by simp [lvG]
  | K + 1, t => by
    simp only [lvG, Bool.or_eq_true, Bool.and_eq_true, decide_eq_true_eq, lvG_iff K t]
    constructor
    · rintro (⟨k, a, b⟩ | h)
      · exact ⟨k, by omega, b⟩
      · exact ⟨K, by omega, h⟩
    · rintro ⟨k, a, b⟩
      rcases Nat.lt_or_ge k K with h | h
      · exact .inl ⟨k, h, b⟩
      · obtain rfl : k = K := by omega
        exact .inr b
theorem res_iff (K : Nat) (t : T3) : res c f0 K t = true ↔ (∃ k, k < K ∧ lvF c f0 k t = true ∧ grp (lvF c f0 k) (par t) < c) ∨ lvF c f0 K t = true := by
  simp only [res, Bool.or_eq_true, lvG_iff]
theorem res_at {K : Nat} {t : T3} (h : res c f0 K t = true) : ∃ k, k ≤ K ∧ lvF c f0 k t = true ∧ (k < K → grp (lvF c f0 k) (par t) < c) := by
  rcases (res_iff K t).1 h with ⟨k, a, b, d⟩ | h
  · exact ⟨k, by omega, b, fun _ => d⟩
  · exact ⟨K, by omega, h, fun h => absurd h (by omega)⟩
theorem res_level (hc : 1 ≤ c) (h0 : ∀ t, f0 t = true → t.2.2 = n) {K : Nat} {t : T3} (h : res c f0 K t = true) : n - K ≤ t.2.2 ∧ t.2.2 ≤ n := by
  obtain ⟨k, hk, hf, _⟩ := res_at h
  have := lvF_lev hc h0 k t hf
  omega
/-- Every tile that was there is under a tile of the answer. -/
theorem res_cover {t : T3} (h : f0 t = true) : ∀ K, ∃ k, k ≤ K ∧ res c f0 K (up k t) = true := by
  intro K
  have key : ∀ j, j ≤ K → (∃ k, k ≤ K ∧ res c f0 K (up k t) = true) ∨ lvF c f0 j (up j t) = true := by
    intro j
    induction j with
    | zero => intro _; right; rw [up_zero]; exact h
    | succ j ih =>
      intro hj
      rcases ih (by omega) with h1 | h1
      · exact .inl h1
      · by_cases hg : grp (lvF c f0 j) (par (up j t)) < c
        · exact .inl ⟨j, by omega, (res_iff K _).2 (.inl ⟨j, by omega, h1, hg⟩)⟩
        · right
          rw [up_succ]
          simp [lvF]; omega
  rcases key K (Nat.le_refl _) with h1 | h1
  · exact h1
  · exact ⟨K, Nat.le_refl _, (res_iff K _).2 (.inr h1)⟩
end

/-- With four quarters asked for. -/
theorem grp4 {f : T3 → Bool} {p : T3} (h : 4 ≤ grp f p) : ∀ t, par t = p → f t = true := by
  intro t ht
  have hm := (mem_kidsT t p).2 ht
  have hl : (kidsT p).length = 4 := rfl
  have := List.countP_eq_length.1 (show (kidsT p).countP f = (kidsT p).length by
    have h1 := List.countP_le_length (p := f) (l := kidsT p)
    have h2 : 4 ≤ (kidsT p).countP f := h
    omega) t hm
  exact this
theorem grp4' {f : T3 → Bool} {p : T3} (h : ∀ t, par t = p → f t = true) : 4 ≤ grp f p := by
  have : (kidsT p).countP f = (kidsT p).length := List.countP_eq_length.2 fun t ht => h t ((mem_kidsT t p).1 ht)
  have hl : (kidsT p).length = 4 := rfl
  show 4 ≤ (kidsT p).countP f
  omega
section
variable {f0 : T3 → Bool} {n : Int}
theorem lvF4_down : ∀ (d k : Nat) (u t : T3), lvF 4 f0 (k + d) u = true → up d t = u → lvF 4 f0 k t = true
  | 0, k, u, t, h, e => by rw [up_zero] at e; rw [e]; exact h
  | d + 1, k, u, t, h, e => by
    have h1 : 4 ≤ grp (lvF 4 f0 (k + d)) u := by
      have : lvF 4 f0 (k + d + 1) u = true := h
      simpa [lvF] using this
    rw [up_succ] at e
    exact lvF4_down d k (up d t) t (grp4 h1 _ e) rfl
/-- What is under a tile of the answer was there. -/
theorem res4_down (h0 : ∀ t, f0 t = true → t.2.2 = n) {K : Nat} {u t : T3} (h : res 4 f0 K u = true) (d : Nat) (hz : t.2.2 = n) (e : up d t = u) : f0 t = true := by
  obtain ⟨k, hk, hf, _⟩ := res_at h
  have h1 := lvF_lev (by omega) h0 k u hf
  have h2 : u.2.2 = t.2.2 - d := by rw [← e]; rfl
  obtain rfl : d = k := by omega
  have : lvF 4 f0 (0 + d) u = true := by rw [Nat.zero_add]; exact hf
  exact lvF4_down d 0 u t this e
/-- A tile is under one tile of the answer alone. -/
theorem res4_one (h0 : ∀ t, f0 t = true → t.2.2 = n) {K : Nat} {t : T3} (hz : t.2.2 = n) {a b : Nat} (ha : res 4 f0 K (up a t) = true) (hb : res 4 f0 K (up b t) = true) : a = b := by
  have key : ∀ a b, a < b → res 4 f0 K (up a t) = true → res 4 f0 K (up b t) = true → False := by
    intro a b hlt ha hb
    obtain ⟨k, hk, hf, hg⟩ := res_at ha
    obtain ⟨l, hl, hf2, _⟩ := res_at hb
    have h1 := lvF_lev (by omega) h0 k _ hf
    have h2 := lvF_lev (by omega) h0 l _ hf2
    simp only [up] at h1 h2
    obtain rfl : k = a := by omega
    obtain rfl : l = b := by omega
    obtain ⟨d, rfl⟩ : ∃ d, l = k + 1 + d := ⟨l - (k + 1), by omega⟩
    have h3 : lvF 4 f0 (k + 1) (up (k + 1) t) = true := lvF4_down d (k + 1) _ _ hf2 (up_add _ _ _)
    have h4 : 4 ≤ grp (lvF 4 f0 k) (up (k + 1) t) := by simpa [lvF] using h3
    rw [up_succ] at h4
    have := hg (by omega)
    omega
  rcases Nat.lt_trichotomy a b with h | h | h
  · exact (key a b h ha hb).elim
  · exact h
  · exact (key b a h hb ha).elim
/-- No four quarters above the zoom are left. -/
theorem res4_full (h0 : ∀ t, f0 t = true → t.2.2 = n) {K : Nat} {t : T3} (h : res 4 f0 K t = true) (hz : n - K < t.2.2) : ∃ s, par s = par t ∧ res 4 f0 K s = false := by
  obtain ⟨k, hk, hf, hg⟩ := res_at h
  have h1 := lvF_lev (by omega) h0 k t hf
  refine Classical.byContradiction fun hn => ?_
  have hall : ∀ s, par s = par t → lvF 4 f0 k s = true := fun s hs => by
    have hr : res 4 f0 K s = true := by
      cases hc : res 4 f0 K s
      · exact absurd ⟨s, hs, hc⟩ hn
      · rfl
    obtain ⟨l, hl, hf2, _⟩ := res_at hr
    have h2 := lvF_lev (by omega) h0 l s hf2
    have h3 : s.2.2 = t.2.2 := by
      have := congrArg (fun p : T3 => p.2.2) hs
      simp only [par] at this; omega
    obtain rfl : l = k := by omega
    exact hf2
  have := grp4' hall
  have := hg (by omega)
  omega
end

/-- The tiles of zoom n under a tile. -/
def under (n : Int) (t : T3) : List T3 := (List.range (2 ^ (2 * (n - t.2.2).toNat))).map fun (i : Nat) => (t.1 * 2 ^ (n - t.2.2).toNat + (i : Int) % 2 ^ (n - t.2.2).toNat, t.2.1 * 2 ^ (n - t.2.2).toNat + (i : Int) / 2 ^ (n - t.2.2).toNat, n)
theorem mem_under {n : Int} {t u : T3} (hz : t.2.2 ≤ n) : u ∈ under n t ↔ u.2.2 = n ∧ up (n - t.2.2).toNat u = t := by
  obtain ⟨a, b, c⟩ := t; obtain ⟨x, y, z⟩ := u
  simp only [under, List.mem_map, List.mem_range, up, Prod.mk.injEq]
  dsimp only at hz
  generalize hd : (n - c).toNat = d
  have hP : 0 < (2 : Int) ^ d := Int.pow_pos (by omega)
  have hPP : ((2 ^ (2 * d) : Nat) : Int) = 2 ^ d * 2 ^ d := by
    rw [show 2 * d = d + d by omega, Nat.pow_add]; push_cast; rfl
  generalize (2 : Int) ^ d = P at *
  constructor
  · rintro ⟨i, hi, e1, e2, rfl⟩
    have hi2 : (i : Int) < P * P := by rw [← hPP]; exact_mod_cast hi
    have m0 : 0 ≤ (i : Int) % P := Int.emod_nonneg _ (by omega)
    have m1 : (i : Int) % P < P := Int.emod_lt_of_pos _ hP
    have q0 : 0 ≤ (i : Int) / P := Int.ediv_nonneg (by omega) (by omega)
    have q1 : (i : Int) / P < P := Int.ediv_lt_of_lt_mul hP hi2
    refine ⟨rfl, ?_, ?_, by omega⟩
    · rw [← e1, Int.add_comm, Int.add_mul_ediv_right _ _ (by omega), Int.ediv_eq_zero_of_lt m0 m1]; omega
    · rw [← e2, Int.add_comm, Int.add_mul_ediv_right _ _ (by omega), Int.ediv_eq_zero_of_lt q0 q1]; omega
  · rintro ⟨rfl, e1, e2, e3⟩
    have m0 : 0 ≤ x % P := Int.emod_nonneg _ (by omega)
    have m1 : x % P < P := Int.emod_lt_of_pos _ hP
    have n0 : 0 ≤ y % P := Int.emod_nonneg _ (by omega)
    have n1 : y % P < P := Int.emod_lt_of_pos _ hP
    have hx := Int.mul_ediv_add_emod x P
    have hy := Int.mul_ediv_add_emod y P
    rw [e1, Int.mul_comm] at hx
    rw [e2, Int.mul_comm] at hy
    have hm : (y % P) * P ≤ (P - 1) * P := Int.mul_le_mul_of_nonneg_right (by omega) (by omega)
    rw [Int.sub_mul, Int.one_mul] at hm
    have hm0 : 0 ≤ (y % P) * P := Int.mul_nonneg n0 (by omega)
    refine ⟨(x % P + y % P * P).toNat, ?_, ?_, ?_, rfl⟩
    · have : ((x % P + y % P * P).toNat : Int) < ((2 ^ (2 * d) : Nat) : Int) := by rw [hPP]; omega
      exact_mod_cast this
    · rw [show (((x % P + y % P * P).toNat : Nat) : Int) = x % P + y % P * P by omega, Int.add_mul_emod_self_right, Int.emod_emod_of_dvd _ (Int.dvd_refl P)]
      omega
    · rw [show (((x % P + y % P * P).toNat : Nat) : Int) = x % P + y % P * P by omega, Int.add_mul_ediv_right _ _ (by omega), Int.ediv_eq_zero_of_lt m0 m1]
      omega
theorem under_nodup (n : Int) (t : T3) : (under n t).Nodup := by
  refine List.pairwise_map.2 (List.Pairwise.imp_of_mem ?_ List.nodup_range)
  intro i j hi hj hne e
  simp only [Prod.mk.injEq] at e
  obtain ⟨e1, e2, _⟩ := e
  apply hne
  have hP : 0 < (2 : Int) ^ (n - t.2.2).toNat := Int.pow_pos (by omega)
  generalize (2 : Int) ^ (n - t.2.2).toNat = P at *
  have a := Int.mul_ediv_add_emod i P
  have b := Int.mul_ediv_add_emod j P
  have c1 : (i : Int) % P = (j : Int) % P := by omega
  have c2 : (i : Int) / P = (j : Int) / P := by omega
  rw [c1, c2] at a
  omega
theorem under_length (n : Int) (t : T3) : (under n t).length = 2 ^ (2 * (n - t.2.2).toNat) := by simp [under]

/-- All tiles of zoom n under the tiles of a list. -/
def cov (n : Int) (us : List T3) : List T3 := us.flatMap (under n)
section
variable {f0 : T3 → Bool} {n : Int} {K : Nat} {us : List T3}
theorem cov_mem (h0 : ∀ t, f0 t = true → t.2.2 = n) (hu : ∀ t, t ∈ us ↔ res 4 f0 K t = true) (t : T3) : t ∈ cov n us ↔ f0 t = true := by
  simp only [cov, List.mem_flatMap]
  constructor
  · rintro ⟨u, hus, hm⟩
    have hr := (hu u).1 hus
    obtain ⟨h1, h2⟩ := (mem_under (res_level (by omega) h0 hr).2).1 hm
    exact res4_down h0 hr _ h1 h2
  · intro h
    obtain ⟨k, hk, hr⟩ := res_cover (c := 4) h K
    have hz := h0 t h
    refine ⟨up k t, (hu _).2 hr, (mem_under (res_level (by omega) h0 hr).2).2 ⟨hz, ?_⟩⟩
    rw [show (n - (up k t).2.2).toNat = k by simp [up]; omega]
theorem cov_nodup (h0 : ∀ t, f0 t = true → t.2.2 = n) (hu : ∀ t, t ∈ us → res 4 f0 K t = true) (nd : us.Nodup) : (cov n us).Nodup := by
  induction us with
  | nil => simp [cov]
  | cons u us ih =>
    have hr := hu u (by simp)
    show (under n u ++ cov n us).Nodup
    rw [List.nodup_append]
    refine ⟨under_nodup n u, ih (fun t ht => hu t (by simp [ht])) (List.nodup_cons.1 nd).2, fun a ha b hb => ?_⟩
    rintro rfl
    obtain ⟨v, hv, hm⟩ := List.mem_flatMap.1 hb
    have hr2 := hu v (by simp [hv])
    obtain ⟨z1, e1⟩ := (mem_under (res_level (by omega) h0 hr).2).1 ha
    obtain ⟨z2, e2⟩ := (mem_under (res_level (by omega) h0 hr2).2).1 hm
    have := res4_one h0 z1 (a := (n - u.2.2).toNat) (b := (n - v.2.2).toNat) (by rw [e1]; exact hr) (by rw [e2]; exact hr2)
    rw [← this, e1] at e2
    subst e2
    exact (List.nodup_cons.1 nd).1 hv
end

end Go.Proofs.Ytdkknlnlfaoapaa
