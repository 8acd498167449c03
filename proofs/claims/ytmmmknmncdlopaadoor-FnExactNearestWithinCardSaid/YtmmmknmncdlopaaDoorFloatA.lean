/- Floats of 64 bits as multiples of the least one: what a number is rounded to. No condition. -/
import GoSem.Core.Float
namespace Go.Proofs.YtmmmknmncdlopaaDoor.F

/-- The value of a rung, in units of the least positive float. -/
def rv (r : Nat) : Nat := if r < 2 ^ 52 then r else (2 ^ 52 + r % 2 ^ 52) * 2 ^ (r / 2 ^ 52 - 1)

/-- To the nearest whole number, between two to the even one. -/
def rne (n g : Nat) : Nat := n / g + (if g < 2 * (n % g) || (g == 2 * (n % g) && n / g % 2 == 1) then 1 else 0)

theorem rne_le {n g k : Nat} (hg : 0 < g) (h : n ≤ k * g) : rne n g ≤ k := by
  unfold rne
  have h1 : n / g ≤ k := Nat.div_le_of_le_mul (by rw [Nat.mul_comm]; exact h)
  have h2 := Nat.div_add_mod n g
  split
  · rename_i hc
    rcases Nat.lt_or_ge (n / g) k with hlt | hge
    · omega
    · have : n / g = k := by omega
      rw [this, Nat.mul_comm] at h2
      have h0 : n % g = 0 := by omega
      rw [h0] at hc
      simp at hc
      omega
  · omega
theorem le_rne {n g k : Nat} (hg : 0 < g) (h : k * g ≤ n) : k ≤ rne n g := by
  unfold rne
  have : k ≤ n / g := (Nat.le_div_iff_mul_le hg).2 h
  omega
theorem rne_scale (n g c : Nat) (hc : 0 < c) : rne (n * c) (g * c) = rne n g := by
  unfold rne
  rw [Nat.mul_div_mul_right _ _ hc, Nat.mul_mod_mul_right]
  have e : ∀ a b : Nat, (a * c < 2 * (b * c)) = (a < 2 * b) := fun a b => by
    rw [← Nat.mul_assoc]; exact propext ⟨Nat.lt_of_mul_lt_mul_right, fun h => Nat.mul_lt_mul_of_pos_right h hc⟩
  have e2 : ∀ a b : Nat, (a * c == 2 * (b * c)) = (a == 2 * b) := fun a b => by
    rw [Bool.eq_iff_iff, beq_iff_eq, beq_iff_eq, ← Nat.mul_assoc]
    exact ⟨fun h => Nat.eq_of_mul_eq_mul_right hc h, fun h => by rw [h]⟩
  rw [e2]
  simp only [e]
theorem rne_one (n : Nat) : rne n 1 = n := by simp [rne, Nat.mod_one]

theorem log2_mul_pow (m k : Nat) (hm : m ≠ 0) : (m * 2 ^ k).log2 = m.log2 + k := by
  have hp : 0 < 2 ^ k := Nat.two_pow_pos k
  have hne : m * 2 ^ k ≠ 0 := Nat.mul_ne_zero hm (by omega)
  have a : 2 ^ m.log2 ≤ m := Nat.log2_self_le hm
  have b : m < 2 ^ (m.log2 + 1) := (Nat.log2_lt hm).1 (Nat.lt_succ_self _)
  have c : m.log2 + k ≤ (m * 2 ^ k).log2 := (Nat.le_log2 hne).2 (by rw [Nat.pow_add]; exact Nat.mul_le_mul_right _ a)
  have d : (m * 2 ^ k).log2 < m.log2 + k + 1 := (Nat.log2_lt hne).2 (by rw [show m.log2 + k + 1 = m.log2 + 1 + k by omega, Nat.pow_add 2 (m.log2 + 1)]; exact Nat.mul_lt_mul_of_pos_right b hp)
  omega

theorem cut_even (s : Bool) (n drop : Nat) : Ieee.Toward.even.cut s n drop = rne n (2 ^ drop) := by
  unfold Ieee.Toward.cut
  have key : ∀ g : Nat, (n / g + (decide (g < 2 * (n % g)) || (g == 2 * (n % g) && n / g % 2 == 1)).toNat) = rne n g := fun g => by
    unfold rne
    cases (decide (g < 2 * (n % g)) || (g == 2 * (n % g) && n / g % 2 == 1)) <;> simp
  simp only [Nat.one_shiftLeft]
  rcases Nat.le_total drop (n.log2 + 2) with h | h
  · rw [Nat.min_eq_left h]; exact key _
  · rw [Nat.min_eq_right h]
    rw [key]
    by_cases hn : n = 0
    · subst hn; simp [rne]
    · have b : n < 2 ^ (n.log2 + 1) := (Nat.log2_lt hn).1 (Nat.lt_succ_self _)
      have z : ∀ d, n.log2 + 2 ≤ d → rne n (2 ^ d) = 0 := fun d hd => by
        have c : 2 ^ (n.log2 + 2) ≤ 2 ^ d := Nat.pow_le_pow_right (by omega) hd
        rw [Nat.pow_succ] at c
        have hlt : n < 2 ^ d := by omega
        unfold rne
        rw [Nat.div_eq_of_lt hlt, Nat.mod_eq_of_lt hlt, if_neg]
        simp; omega
      rw [z _ (Nat.le_refl _), z _ h]

/-- The rung to which 'N / 2^j' units are rounded. -/
def rnd (N j : Nat) : Nat := if N = 0 then 0 else (N.log2 - (j + 52)) * 2 ^ 52 + rne N (2 ^ (j + (N.log2 - (j + 52))))

theorem rnd_scale (N j i : Nat) : rnd (N * 2 ^ i) (j + i) = rnd N j := by
  unfold rnd
  by_cases hN : N = 0
  · simp [hN]
  · have hp : 0 < 2 ^ i := Nat.two_pow_pos i
    rw [if_neg hN, if_neg (Nat.mul_ne_zero hN (by omega)), log2_mul_pow N i hN]
    rw [show N.log2 + i - (j + i + 52) = N.log2 - (j + 52) by omega, show j + i + (N.log2 - (j + 52)) = j + (N.log2 - (j + 52)) + i by omega, Nat.pow_add 2 _ i, rne_scale _ _ _ hp]

theorem nearest_eq (s : Bool) (m : Nat) (p : Int) : Ieee.double.nearest s m p = Ieee.double.word s (min (rnd (m * 2 ^ (p + 1074).toNat) (-1074 - p).toNat) Ieee.double.infRung) := by
  unfold Ieee.Format.nearest
  have hl : Ieee.double.leastPlace = -1074 := by decide
  have hb : Ieee.double.binade = 2 ^ 52 := rfl
  have hf : (Ieee.double.fractionBits : Int) = 52 := rfl
  by_cases hm : m = 0
  · subst hm; simp [rnd]
  rw [if_neg hm]
  simp only [hl, hb, hf, cut_even, Nat.shiftLeft_eq]
  congr 1
  congr 1
  unfold rnd
  have hne : ∀ k, m * 2 ^ k ≠ 0 := fun k => Nat.mul_ne_zero hm (by have := Nat.two_pow_pos k; omega)
  rw [if_neg (hne _), log2_mul_pow _ _ hm]
  rcases (show p < -1074 ∨ -1074 ≤ p by omega) with hp | hp
  · rw [show (p + 1074).toNat = 0 by omega, Nat.pow_zero, Nat.mul_one, Nat.add_zero]
    generalize hj : (-1074 - p).toNat = j
    have e1 : (max (p + (m.log2 : Int) - 52) (-1074) - -1074).toNat = m.log2 - (j + 52) := by omega
    have e2 : (p - max (p + (m.log2 : Int) - 52) (-1074)).toNat = 0 := by omega
    have e3 : (max (p + (m.log2 : Int) - 52) (-1074) - p).toNat = j + (m.log2 - (j + 52)) := by omega
    rw [e1, e2, e3]; simp
  · rw [show (-1074 - p).toNat = 0 by omega]
    generalize ha : (p + 1074).toNat = a
    have e1 : (max (p + (m.log2 : Int) - 52) (-1074) - -1074).toNat = m.log2 + a - (0 + 52) := by omega
    rw [e1]
    congr 1
    rw [Nat.zero_add]
    generalize ht : m.log2 + a - (0 + 52) = t at *
    rcases Nat.lt_or_ge t a with h | h
    · rw [show (p - max (p + (m.log2 : Int) - 52) (-1074)).toNat = a - t by omega, show (max (p + (m.log2 : Int) - 52) (-1074) - p).toNat = 0 by omega, Nat.pow_zero, rne_one]
      have : m * 2 ^ a = m * 2 ^ (a - t) * 2 ^ t := by rw [Nat.mul_assoc, ← Nat.pow_add]; congr 2; omega
      have h2 := rne_scale (m * 2 ^ (a - t)) 1 (2 ^ t) (Nat.two_pow_pos t)
      rw [Nat.one_mul, rne_one] at h2
      rw [this, h2]
    · rw [show (p - max (p + (m.log2 : Int) - 52) (-1074)).toNat = 0 by omega, show (max (p + (m.log2 : Int) - 52) (-1074) - p).toNat = t - a by omega, Nat.pow_zero, Nat.mul_one]
      have h2 := rne_scale m (2 ^ (t - a)) (2 ^ a) (Nat.two_pow_pos a)
      rw [← Nat.pow_add, show t - a + a = t by omega] at h2
      exact h2.symm

/-- What the rounded number is. -/
theorem rv_rnd (N j : Nat) (hN : N ≠ 0) : rv (rnd N j) = rne N (2 ^ (j + (N.log2 - (j + 52)))) * 2 ^ (N.log2 - (j + 52)) := by
  unfold rnd
  rw [if_neg hN]
  have a : 2 ^ N.log2 ≤ N := Nat.log2_self_le hN
  have b : N < 2 ^ (N.log2 + 1) := (Nat.log2_lt hN).1 (Nat.lt_succ_self _)
  generalize ht : N.log2 - (j + 52) = t at *
  have hq : rne N (2 ^ (j + t)) ≤ 2 ^ 53 := rne_le (Nat.two_pow_pos _) (by
    rw [← Nat.pow_add]
    exact Nat.le_of_lt (Nat.lt_of_lt_of_le b (Nat.pow_le_pow_right (by omega) (by omega))))
  have hq2 : t ≠ 0 → 2 ^ 52 ≤ rne N (2 ^ (j + t)) := fun h => le_rne (Nat.two_pow_pos _) (by
    rw [← Nat.pow_add]
    exact Nat.le_trans (Nat.pow_le_pow_right (by omega) (by omega)) a)
  generalize rne N (2 ^ (j + t)) = q at *
  unfold rv
  by_cases h0 : t = 0
  · subst h0
    rw [Nat.zero_mul, Nat.zero_add, Nat.pow_zero, Nat.mul_one]
    split
    · rfl
    · rename_i hge
      rcases Nat.lt_or_ge q (2 ^ 53) with h | h
      · have e1 : q / 2 ^ 52 = 1 := by omega
        have e2 : q % 2 ^ 52 = q - 2 ^ 52 := by omega
        rw [e1, e2]; omega
      · have : q = 2 ^ 53 := by omega
        subst this
        have e1 : (2 ^ 53 : Nat) / 2 ^ 52 = 2 := by omega
        have e2 : (2 ^ 53 : Nat) % 2 ^ 52 = 0 := by omega
        rw [e1, e2]
  · have h1 := hq2 h0
    rw [if_neg (show ¬ t * 2 ^ 52 + q < 2 ^ 52 by omega)]
    rcases Nat.lt_or_ge q (2 ^ 53) with h | h
    · have e1 : (t * 2 ^ 52 + q) / 2 ^ 52 = t + 1 := by omega
      have e2 : (t * 2 ^ 52 + q) % 2 ^ 52 = q - 2 ^ 52 := by omega
      rw [e1, e2, Nat.add_sub_cancel, show 2 ^ 52 + (q - 2 ^ 52) = q by omega]
    · have e0 : q = 2 ^ 53 := by omega
      subst e0
      have e1 : (t * 2 ^ 52 + 2 ^ 53) / 2 ^ 52 = t + 2 := by omega
      have e2 : (t * 2 ^ 52 + 2 ^ 53) % 2 ^ 52 = 0 := by omega
      rw [e1, e2, show t + 2 - 1 = t + 1 by omega, Nat.add_zero, Nat.pow_succ 2 t, Nat.mul_comm (2 ^ t) 2, ← Nat.mul_assoc]

/-- A whole number of units that is a float. -/
def Rep (K : Nat) : Prop := ∃ m s, K = m * 2 ^ s ∧ m < 2 ^ 53
theorem rep_case {K : Nat} (h : Rep K) (t : Nat) : (∃ k, K = k * 2 ^ t) ∨ K < 2 ^ (52 + t) := by
  obtain ⟨m, s, rfl, hm⟩ := h
  rcases Nat.lt_or_ge s t with hlt | hge
  · right
    have h1 : m * 2 ^ s < 2 ^ 53 * 2 ^ s := Nat.mul_lt_mul_of_pos_right hm (Nat.two_pow_pos s)
    rw [← Nat.pow_add] at h1
    exact Nat.lt_of_lt_of_le h1 (Nat.pow_le_pow_right (by omega) (by omega))
  · left; exact ⟨m * 2 ^ (s - t), by rw [Nat.mul_assoc, ← Nat.pow_add]; congr 2; omega⟩
theorem rnd_ge {N j K : Nat} (hr : Rep K) (h : K * 2 ^ j ≤ N) : K ≤ rv (rnd N j) := by
  by_cases hN : N = 0
  · subst hN
    have := Nat.two_pow_pos j
    have : K = 0 := by
      rcases Nat.eq_zero_or_pos K with e | e
      · exact e
      · have := Nat.mul_pos e this; omega
    omega
  rw [rv_rnd N j hN]
  have a : 2 ^ N.log2 ≤ N := Nat.log2_self_le hN
  generalize ht : N.log2 - (j + 52) = t at *
  rcases rep_case hr t with ⟨k, rfl⟩ | hlt
  · refine Nat.mul_le_mul_right _ (le_rne (Nat.two_pow_pos _) ?_)
    rw [Nat.add_comm j, Nat.pow_add, ← Nat.mul_assoc]; exact h
  · by_cases h0 : t = 0
    · subst h0
      rw [Nat.pow_zero, Nat.mul_one]
      refine le_rne (Nat.two_pow_pos _) ?_
      exact h
    · have hq2 : 2 ^ 52 ≤ rne N (2 ^ (j + t)) := le_rne (Nat.two_pow_pos _) (by
        rw [← Nat.pow_add]
        exact Nat.le_trans (Nat.pow_le_pow_right (by omega) (by omega)) a)
      have := Nat.mul_le_mul_right (2 ^ t) hq2
      rw [← Nat.pow_add] at this
      omega
theorem rnd_le {N j K : Nat} (hr : Rep K) (h : N ≤ K * 2 ^ j) : rv (rnd N j) ≤ K := by
  by_cases hN : N = 0
  · subst hN; simp [rnd, rv]
  rw [rv_rnd N j hN]
  have a : 2 ^ N.log2 ≤ N := Nat.log2_self_le hN
  generalize ht : N.log2 - (j + 52) = t at *
  rcases rep_case hr t with ⟨k, rfl⟩ | hlt
  · refine Nat.mul_le_mul_right _ (rne_le (Nat.two_pow_pos _) ?_)
    rw [Nat.add_comm j, Nat.pow_add, ← Nat.mul_assoc]; exact h
  · by_cases h0 : t = 0
    · subst h0
      rw [Nat.pow_zero, Nat.mul_one]
      exact rne_le (Nat.two_pow_pos _) h
    · exfalso
      have h1 : K * 2 ^ j < 2 ^ (52 + t) * 2 ^ j := Nat.mul_lt_mul_of_pos_right hlt (Nat.two_pow_pos j)
      rw [← Nat.pow_add] at h1
      have h2 : 2 ^ (52 + t + j) ≤ 2 ^ N.log2 := Nat.pow_le_pow_right (by omega) (by omega)
      omega

end Go.Proofs.YtmmmknmncdlopaaDoor.F
