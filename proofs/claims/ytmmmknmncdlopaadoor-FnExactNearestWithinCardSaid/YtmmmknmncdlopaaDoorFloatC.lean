/- Floats of 64 bits: whole numbers, exact; the half; the root. No condition. -/
import Derived.Test.YtmmmknmncdlopaaDoorFloatB
namespace Go.Proofs.YtmmmknmncdlopaaDoor.F

theorem powU (a b : Nat) (h : a = b + 1074) : 2 ^ a = 2 ^ b * U := by
  obtain ⟨c, hc, e⟩ := U_ex
  have key : 2 ^ a = 2 ^ b * 2 ^ c := by
    have h2 : a = b + c := by omega
    rw [h2, Nat.pow_add]
  rw [e]; exact key

/-- The float of a whole number. -/
def I (n : Int) : Nat := Go.FloatKind.f64.nearest n
theorem I_eq (n : Int) : I n = Ieee.double.word (decide (n < 0)) (min (rnd (n.natAbs * U) 0) (2047 * 2 ^ 52)) := by
  show Ieee.double.nearest (decide (n < 0)) n.natAbs 0 = _
  rw [nearest_eq, infRung_val, powU ((0 : Int) + 1074).toNat 0 rfl, Nat.pow_zero, Nat.one_mul]; rfl
theorem I_lt {n : Nat} (h : n < 2 ^ 53) : rnd (n * U) 0 < 2047 * 2 ^ 52 ∧ rv (rnd (n * U) 0) = n * U := by
  have a := rnd_le (rep_U h) (N := n * U) (j := 0) (by simp)
  have b := rnd_ge (rep_U h) (N := n * U) (j := 0) (by simp)
  refine ⟨?_, by omega⟩
  rcases Nat.lt_or_ge (rnd (n * U) 0) (2047 * 2 ^ 52) with h1 | h1
  · exact h1
  · have := rv_big h1
    have h3 : n * U ≤ 2 ^ 53 * U := Nat.mul_le_mul_right _ (by omega)
    have h4 : 2 ^ 53 * U ≤ 2 ^ 60 * U := Nat.mul_le_mul_right _ (by omega)
    omega
theorem sgn_int (n : Int) : sgn (decide (n < 0)) (n.natAbs * U) = n * U := by
  unfold sgn
  rcases (show n < 0 ∨ 0 ≤ n by omega) with h | h
  · rw [if_pos (by simpa using h)]
    push_cast
    rw [show ((n.natAbs : Nat) : Int) = -n by omega, Int.neg_mul, Int.neg_neg]
  · rw [if_neg (by simpa using h)]
    push_cast
    rw [Int.natAbs_of_nonneg h]
theorem I_F (n : Int) (h : n.natAbs < 2 ^ 53) : IsF (I n) (n * U) := by
  obtain ⟨a, b⟩ := I_lt h
  rw [I_eq, Nat.min_eq_left (by omega)]
  exact ⟨_, _, rfl, a, by rw [b, sgn_int]⟩

/-- A number that is exactly n units of the whole numbers is rounded to n's float. -/
theorem write_I (s : Bool) (m : Nat) (p : Int) (n : Int) (hs : s = decide (n < 0)) (h : m * 2 ^ (p + 1074).toNat = n.natAbs * U * 2 ^ (-1074 - p).toNat) : Ieee.double.nearest s m p = I n := by
  rw [nearest_eq, infRung_val, h, I_eq, hs]
  have := rnd_scale (n.natAbs * U) 0 (-1074 - p).toNat
  rw [Nat.zero_add] at this
  rw [this]

theorem mulU_lt {a : Int} : a * U < 0 ↔ a < 0 := by
  have hU : (0 : Int) < U := by have := U_pos; omega
  constructor
  · intro h
    rcases (show a < 0 ∨ 0 ≤ a by omega) with e | e
    · exact e
    · have := Int.mul_nonneg e (show (0 : Int) ≤ U by omega); omega
  · intro h; exact Int.mul_neg_of_neg_of_pos h hU
theorem mulU_pos {a : Int} : 0 < a * U ↔ 0 < a := by
  have := mulU_lt (a := -a)
  rw [Int.neg_mul] at this; omega
theorem mulU_zero {a : Int} : a * U = 0 ↔ a = 0 := by
  have := mulU_lt (a := a); have := mulU_pos (a := a)
  constructor
  · intro h; omega
  · intro h; rw [h]; simp
theorem natAbs_U (a : Int) : (a * U).natAbs = a.natAbs * U := by rw [Int.natAbs_mul]; simp

theorem I_neg (a : Int) (h : a.natAbs < 2 ^ 53) : (Ieee.double.read (I a)).neg = decide (a < 0) := by
  obtain ⟨h1, _⟩ := I_lt h
  rw [I_eq, Nat.min_eq_left (by omega)]
  obtain ⟨m, p, e, _⟩ := read_word (decide (a < 0)) _ h1
  rw [e]; rfl
theorem I_add (a b : Int) (ha : a.natAbs < 2 ^ 53) (hb : b.natAbs < 2 ^ 53) : Ieee.double.add (I a) (I b) = some (I (a + b)) := by
  obtain ⟨s, m, p, e, hp, hm, h1, h2, h3⟩ := sum_D (I_F a ha).read (I_F b hb).read
  rw [← Int.add_mul] at hm h1 h2 h3
  unfold Ieee.Format.add
  rw [e]
  refine congrArg some (write_I s m p (a + b) ?_ (by rw [hm, natAbs_U, show (-1074 - p).toNat = 0 by omega]; simp))
  rcases (show a + b < 0 ∨ a + b = 0 ∨ 0 < a + b by omega) with h | h | h
  · rw [h1 (mulU_lt.2 h)]; simp [h]
  · rw [h3 (mulU_zero.2 h), I_neg a ha, I_neg b hb]
    rw [Bool.eq_iff_iff]; simp; omega
  · rw [h2 (mulU_pos.2 h)]; simp; omega
theorem opp_neg (d : Ieee.Datum) (h : ∃ s m p, d = .number s m p) : d.opposite.neg = !d.neg := by
  obtain ⟨s, m, p, rfl⟩ := h; rfl
theorem I_sub (a b : Int) (ha : a.natAbs < 2 ^ 53) (hb : b.natAbs < 2 ^ 53) : Ieee.double.sub (I a) (I b) = some (I (a - b)) := by
  obtain ⟨s, m, p, e, hp, hm, h1, h2, h3⟩ := sum_D (I_F a ha).read (I_F b hb).read.opposite
  rw [← Int.sub_eq_add_neg, ← Int.sub_mul] at hm h1 h2 h3
  unfold Ieee.Format.sub
  rw [e]
  refine congrArg some (write_I s m p (a - b) ?_ (by rw [hm, natAbs_U, show (-1074 - p).toNat = 0 by omega]; simp))
  rcases (show a - b < 0 ∨ a - b = 0 ∨ 0 < a - b by omega) with h | h | h
  · rw [h1 (mulU_lt.2 h)]; simp [h]
  · have hn : (Ieee.double.read (I b)).opposite.neg = !decide (b < 0) := by
      rw [← I_neg b hb]
      obtain ⟨s', m', p', e', _⟩ := (I_F b hb).read
      exact opp_neg _ ⟨s', m', p', e'⟩
    rw [h3 (mulU_zero.2 h), I_neg a ha, hn]
    rw [Bool.eq_iff_iff]; simp; omega
  · rw [h2 (mulU_pos.2 h)]; simp; omega

/-- The square of a whole number. -/
theorem I_sq (a : Int) (ha : a.natAbs < 2 ^ 53) : Ieee.double.mul (I a) (I a) = some (I (a * a)) := by
  obtain ⟨s, m, p, e, hp, hv⟩ := (I_F a ha).read
  have hm : m * 2 ^ (p + 1074).toNat = a.natAbs * U := by
    have := congrArg Int.natAbs hv
    rw [natAbs_U, sgn_abs] at this; exact this.symm
  unfold Ieee.Format.mul
  rw [e]
  show some (Ieee.double.nearest (s ^^ s) (m * m) (p + p)) = _
  refine congrArg some (write_I _ _ _ _ ?_ ?_)
  · have : 0 ≤ a * a := by
      rcases (show 0 ≤ a ∨ 0 ≤ -a by omega) with h | h
      · exact Int.mul_nonneg h h
      · have := Int.mul_nonneg h h; rwa [Int.neg_mul_neg] at this
    rw [Bool.eq_iff_iff]; simp; omega
  · have h2 : m * m * 2 ^ ((p + 1074).toNat + (p + 1074).toNat) = (a * a).natAbs * U * U := by
      rw [Int.natAbs_mul, Nat.pow_add]
      calc m * m * (2 ^ (p + 1074).toNat * 2 ^ (p + 1074).toNat) = (m * 2 ^ (p + 1074).toNat) * (m * 2 ^ (p + 1074).toNat) := by ac_rfl
        _ = _ := by rw [hm]; generalize U = u; ac_rfl
    rcases (show p + p < -1074 ∨ -1074 ≤ p + p by omega) with h | h
    · rw [show (p + p + 1074).toNat = 0 by omega, Nat.pow_zero, Nat.mul_one]
      have hj : ((p + 1074).toNat + (p + 1074).toNat) + (-1074 - (p + p)).toNat = 0 + 1074 := by omega
      have hP := Nat.two_pow_pos ((p + 1074).toNat + (p + 1074).toNat)
      refine Nat.eq_of_mul_eq_mul_right hP ?_
      have e1 := powU _ _ hj
      rw [Nat.pow_zero, Nat.one_mul, Nat.pow_add] at e1
      rw [h2]
      generalize 2 ^ ((p + 1074).toNat + (p + 1074).toNat) = X at *
      rw [Nat.mul_assoc _ (2 ^ _) X, Nat.mul_comm (2 ^ _) X, e1]
    · rw [show (-1074 - (p + p)).toNat = 0 by omega, Nat.pow_zero, Nat.mul_one]
      have hj : (p + 1074).toNat + (p + 1074).toNat = (p + p + 1074).toNat + 1074 := by omega
      refine Nat.eq_of_mul_eq_mul_right U_pos ?_
      rw [← h2, powU _ _ hj, Nat.mul_assoc]

/-- The float 2. -/
def two : Nat := 4611686018427387904
theorem read_two : Ieee.double.read two = .number false (2 ^ 52) (-51) := by decide
theorem nearest_scale (s : Bool) (m k : Nat) (p : Int) : Ieee.double.nearest s (m * 2 ^ k) (p - k) = Ieee.double.nearest s m p := by
  rw [nearest_eq, nearest_eq]
  congr 2
  rcases (show p < -1074 ∨ -1074 ≤ p by omega) with h | h
  · rw [show (p - (k : Int) + 1074).toNat = 0 by omega, show (p + 1074).toNat = 0 by omega, show (-1074 - (p - (k : Int))).toNat = (-1074 - p).toNat + k by omega, Nat.pow_zero, Nat.mul_one, Nat.mul_one]
    exact rnd_scale m _ k
  · rw [show (-1074 - p).toNat = 0 by omega]
    have e : (p - (k : Int) + 1074).toNat + k = (p + 1074).toNat + (-1074 - (p - (k : Int))).toNat := by omega
    rw [Nat.mul_assoc, ← Nat.pow_add, Nat.add_comm k, e, Nat.pow_add, ← Nat.mul_assoc]
    have := rnd_scale (m * 2 ^ (p + 1074).toNat) 0 (-1074 - (p - (k : Int))).toNat
    rwa [Nat.zero_add] at this
/-- The half of a float. -/
theorem half_F {x : Nat} {v : Int} (hx : IsF x v) (B : Nat) (hB : B < 2 ^ 53) (h : v.natAbs ≤ 2 * (B * U)) :
    ∃ r z, Ieee.double.div x two = some r ∧ IsF r z ∧ (∀ k : Nat, k < 2 ^ 53 → v.natAbs ≤ 2 * (k * U) → z.natAbs ≤ k * U) := by
  obtain ⟨s, r, rfl, hr, rfl⟩ := hx
  obtain ⟨m, p, e, hp, hm, hm53⟩ := read_word s r hr
  rw [sgn_abs, ← hm] at h
  have hlog : m.log2 ≤ 52 := by
    by_cases h0 : m = 0
    · subst h0; decide
    · exact Nat.lt_succ_iff.1 ((Nat.log2_lt h0).2 hm53)
  obtain ⟨k, hk⟩ : ∃ k, 54 + Nat.log2 (2 ^ 52) - m.log2 = k + 52 := ⟨54 + 52 - m.log2 - 52, by rw [Nat.log2_two_pow]; omega⟩
  have hdiv : Ieee.double.div (Ieee.double.word s r) two = some (Ieee.double.nearest s m (p - 1)) := by
    unfold Ieee.Format.div
    rw [e, read_two]
    show (Ieee.Datum.quotient 54 (.number s m p) (.number false (2 ^ 52) (-51))).map _ = _
    unfold Ieee.Datum.quotient
    simp only []
    rw [if_neg (by decide)]
    simp only [Option.map_some, hk, Nat.shiftLeft_eq]
    have e1 : m * 2 ^ (k + 52) / 2 ^ 52 = m * 2 ^ k := by rw [Nat.pow_add, ← Nat.mul_assoc]; exact Nat.mul_div_cancel _ (Nat.two_pow_pos 52)
    have e2 : m * 2 ^ (k + 52) % 2 ^ 52 = 0 := by rw [Nat.pow_add, ← Nat.mul_assoc]; exact Nat.mul_mod_left _ _
    rw [e1, e2]
    show some (Ieee.double.nearest (s ^^ false) (2 * (m * 2 ^ k) + 0) (p - -51 - ((k + 52 : Nat) : Int) - 1)) = _
    have e3 : 2 * (m * 2 ^ k) + 0 = m * 2 ^ (k + 1) := by rw [Nat.pow_succ, Nat.add_zero, Nat.mul_comm 2, Nat.mul_assoc]
    rw [e3, Bool.xor_false, show p - -51 - ((k + 52 : Nat) : Int) - 1 = p - 1 - ((k + 1 : Nat) : Int) by omega, nearest_scale]
  have key : ∀ c : Nat, m * 2 ^ (p + 1074).toNat ≤ 2 * (c * U) → m * 2 ^ (p - 1 + 1074).toNat ≤ c * U * 2 ^ (-1074 - (p - 1)).toNat := fun c hc => by
    rcases (show p = -1074 ∨ -1073 ≤ p by omega) with h0 | h0
    · subst h0
      have hc2 : m * 2 ^ 0 ≤ 2 * (c * U) := hc
      show m * 2 ^ 0 ≤ c * U * 2 ^ 1
      omega
    · rw [show (-1074 - (p - 1)).toNat = 0 by omega]
      rw [show (p + 1074).toNat = (p - 1 + 1074).toNat + 1 by omega, Nat.pow_succ, ← Nat.mul_assoc] at hc
      omega
  refine ⟨_, _, hdiv, nearest_F s m (p - 1) B hB (key B h), fun c hc hv => ?_⟩
  rw [sgn_abs] at hv ⊢
  rw [← hm] at hv
  exact rnd_le (rep_U hc) (key c hv)

/-- The whole root. -/
theorem rootFrom_spec (n : Nat) : ∀ (todo root : Nat), root * root ≤ n → n < (root + 2 ^ todo) * (root + 2 ^ todo) →
    Ieee.Datum.rootFrom n todo root * Ieee.Datum.rootFrom n todo root ≤ n ∧ n < (Ieee.Datum.rootFrom n todo root + 1) * (Ieee.Datum.rootFrom n todo root + 1)
  | 0, root, h1, h2 => ⟨h1, h2⟩
  | todo + 1, root, h1, h2 => by
    unfold Ieee.Datum.rootFrom
    simp only [Nat.one_shiftLeft]
    split
    · rename_i h
      refine rootFrom_spec n todo _ h ?_
      rw [Nat.add_assoc, show 2 ^ todo + 2 ^ todo = 2 ^ (todo + 1) by rw [Nat.pow_succ]; omega]; exact h2
    · rename_i h
      exact rootFrom_spec n todo root h1 (by omega)
theorem root_spec (n : Nat) : (Ieee.Datum.rootFrom n (n.log2 / 2 + 1) 0) * (Ieee.Datum.rootFrom n (n.log2 / 2 + 1) 0) ≤ n ∧ n < (Ieee.Datum.rootFrom n (n.log2 / 2 + 1) 0 + 1) * (Ieee.Datum.rootFrom n (n.log2 / 2 + 1) 0 + 1) := by
  refine rootFrom_spec n _ 0 (by omega) ?_
  by_cases h : n = 0
  · subst h; decide
  · have b : n < 2 ^ (n.log2 + 1) := (Nat.log2_lt h).1 (Nat.lt_succ_self _)
    rw [Nat.zero_add, ← Nat.pow_add]
    exact Nat.lt_of_lt_of_le b (Nat.pow_le_pow_right (by omega) (by omega))
theorem sq_le {a b : Nat} (h : a * a ≤ b * b) : a ≤ b := by
  rcases Nat.lt_or_ge b a with hlt | hge
  · have := Nat.mul_lt_mul_of_lt_of_le hlt (Nat.le_of_lt hlt) (by omega); omega
  · exact hge
theorem sq_lt {a b : Nat} (h : a * a < b * b) : a < b := by
  rcases Nat.lt_or_ge a b with hlt | hge
  · exact hlt
  · have := Nat.mul_le_mul hge hge; omega

/-- The root of a whole number: not below any whole number whose square is not above it. -/
theorem sqrt_F (n : Nat) (hn : n < 2 ^ 50) : ∃ r z, Ieee.double.sqrt (I n) = some r ∧ IsF r z ∧ 0 ≤ z ∧ z ≤ (2 ^ 25 : Nat) * U ∧ ∀ k : Nat, k * k ≤ n → (k : Int) * U ≤ z := by
  obtain ⟨h1, h2⟩ := I_lt (n := n) (by omega)
  have hI : I n = Ieee.double.word false (rnd (n * U) 0) := by
    rw [I_eq, show decide (((n : Int)) < 0) = false by simp, show ((n : Int)).natAbs = n by simp, Nat.min_eq_left (by omega)]
  obtain ⟨m, p, e, hp, hm, hm53⟩ := read_word false _ h1
  rw [h2] at hm
  unfold Ieee.Format.sqrt
  rw [hI, e]
  show ∃ r z, (Ieee.Datum.root 54 (.number false m p)).map _ = some r ∧ _
  unfold Ieee.Datum.root
  simp only [Bool.false_eq_true, if_false]
  by_cases h0 : m = 0
  · rw [if_pos h0]
    have hn0 : n = 0 := by
      subst h0
      rw [Nat.zero_mul] at hm
      rcases Nat.eq_zero_or_pos n with h | h
      · exact h
      · have := Nat.mul_pos h U_pos; omega
    subst h0; subst hn0
    refine ⟨_, 0, rfl, ⟨false, 0, ?_, by omega, by simp [rv, sgn]⟩, by omega, by have := U_pos; omega, fun k hk => ?_⟩
    · show Ieee.double.nearest false 0 p = _
      unfold Ieee.Format.nearest; rw [if_pos rfl]
    · have : k = 0 := by
        rcases Nat.eq_zero_or_pos k with h | h
        · exact h
        · have := Nat.mul_pos h h; omega
      subst this; simp
  rw [if_neg h0]
  have hlog : m.log2 ≤ 52 := Nat.lt_succ_iff.1 ((Nat.log2_lt h0).2 hm53)
  obtain ⟨more, hmore⟩ : ∃ more, 2 * 54 - m.log2 + ((p - ((2 * 54 - m.log2 : Nat) : Int)) % 2).toNat = more := ⟨_, rfl⟩
  rw [hmore]
  obtain ⟨c, hc⟩ : ∃ c : Nat, (more : Int) - p = 2 * c := by
    -- p is below 50
    have hp50 : p < 50 := by
      rcases (show p < 50 ∨ 50 ≤ p by omega) with h | h
      · exact h
      · exfalso
        obtain ⟨d, hd⟩ : ∃ d, (p + 1074).toNat = 50 + d + 1074 := ⟨(p + 1074).toNat - 1124, by omega⟩
        have e1 := powU _ _ hd
        rw [Nat.pow_add] at e1
        have a2 : 1 * 2 ^ (p + 1074).toNat ≤ m * 2 ^ (p + 1074).toNat := Nat.mul_le_mul_right _ (by omega)
        have a3 : n * U < 2 ^ 50 * U := Nat.mul_lt_mul_of_pos_right hn U_pos
        have a4 : 2 ^ 50 * U ≤ 2 ^ 50 * 2 ^ d * U := Nat.mul_le_mul_right _ (Nat.le_mul_of_pos_right _ (Nat.two_pow_pos d))
        rw [hm, e1, Nat.one_mul] at a2
        omega
    exact ⟨(((more : Int) - p) / 2).toNat, by omega⟩
  have hn2 : m * 2 ^ more = n * (2 ^ c * 2 ^ c) := by
    have hx : (p + 1074).toNat + (c + c) = more + 1074 := by omega
    refine Nat.eq_of_mul_eq_mul_right U_pos ?_
    have e1 := powU _ _ hx
    rw [Nat.pow_add, Nat.pow_add 2 c c] at e1
    rw [Nat.mul_assoc, ← e1, ← Nat.mul_assoc, hm]
    generalize U = u
    generalize 2 ^ c = P
    ac_rfl
  rw [Nat.shiftLeft_eq, hn2]
  obtain ⟨q1, q2⟩ := root_spec (n * (2 ^ c * 2 ^ c))
  generalize Ieee.Datum.rootFrom (n * (2 ^ c * 2 ^ c)) ((n * (2 ^ c * 2 ^ c)).log2 / 2 + 1) 0 = w at *
  have hplace : (p - (more : Int)) / 2 - 1 = -(c : Int) - 1 := by omega
  rw [hplace]
  generalize hb : (w * w != n * (2 ^ c * 2 ^ c)).toNat = b
  have hP : 0 < 2 ^ c := Nat.two_pow_pos c
  -- bounds of the digits
  have lo : ∀ k : Nat, k * k ≤ n → k * 2 ^ c ≤ w := fun k hk => by
    have h3 : (k * 2 ^ c) * (k * 2 ^ c) < (w + 1) * (w + 1) := by
      refine Nat.lt_of_le_of_lt ?_ q2
      rw [show k * 2 ^ c * (k * 2 ^ c) = k * k * (2 ^ c * 2 ^ c) by ac_rfl]
      exact Nat.mul_le_mul_right _ hk
    have := sq_lt h3; omega
  have hi : 2 * w + b ≤ 2 * (2 ^ 25 * 2 ^ c) := by
    have h3 : w * w ≤ (2 ^ 25 * 2 ^ c) * (2 ^ 25 * 2 ^ c) := by
      refine Nat.le_trans q1 ?_
      rw [show 2 ^ 25 * 2 ^ c * (2 ^ 25 * 2 ^ c) = (2 ^ 25 * 2 ^ 25) * (2 ^ c * 2 ^ c) by ac_rfl]
      exact Nat.mul_le_mul_right _ (by omega)
    have h4 := sq_le h3
    rcases Nat.lt_or_ge w (2 ^ 25 * 2 ^ c) with h5 | h5
    · have : b ≤ 1 := by rw [← hb]; cases (w * w != n * (2 ^ c * 2 ^ c)) <;> simp
      omega
    · exfalso
      have h6 : w = 2 ^ 25 * 2 ^ c := by omega
      subst h6
      rw [show 2 ^ 25 * 2 ^ c * (2 ^ 25 * 2 ^ c) = (2 ^ 25 * 2 ^ 25) * (2 ^ c * 2 ^ c) by ac_rfl] at q1
      have := Nat.le_of_mul_le_mul_right q1 (Nat.mul_pos hP hP)
      omega
  -- rounded
  have key : ∀ k : Nat, 2 * w + b ≤ 2 * (k * 2 ^ c) → (2 * w + b) * 2 ^ (-(c : Int) - 1 + 1074).toNat ≤ k * U * 2 ^ (-1074 - (-(c : Int) - 1)).toNat := fun k hk => by
    have hx : (c + 1) + (-(c : Int) - 1 + 1074).toNat = 1074 + (-1074 - (-(c : Int) - 1)).toNat := by omega
    refine Nat.le_trans (Nat.mul_le_mul_right _ hk) (Nat.le_of_eq ?_)
    have e1 := powU _ _ ((Nat.add_comm _ _).trans (hx.trans (Nat.add_comm _ _)))
    rw [Nat.pow_add, Nat.pow_succ] at e1
    generalize U = u at *
    generalize 2 ^ (-(c : Int) - 1 + 1074).toNat = A at *
    generalize 2 ^ (-1074 - (-(c : Int) - 1)).toNat = R at *
    generalize 2 ^ c = P at *
    rw [show 2 * (k * P) * A = k * (A * (P * 2)) by ac_rfl, e1]; ac_rfl
  have key2 : ∀ k : Nat, 2 * (k * 2 ^ c) ≤ 2 * w + b → k * U * 2 ^ (-1074 - (-(c : Int) - 1)).toNat ≤ (2 * w + b) * 2 ^ (-(c : Int) - 1 + 1074).toNat := fun k hk => by
    have hx : (c + 1) + (-(c : Int) - 1 + 1074).toNat = 1074 + (-1074 - (-(c : Int) - 1)).toNat := by omega
    refine Nat.le_trans (Nat.le_of_eq ?_) (Nat.mul_le_mul_right _ hk)
    have e1 := powU _ _ ((Nat.add_comm _ _).trans (hx.trans (Nat.add_comm _ _)))
    rw [Nat.pow_add, Nat.pow_succ] at e1
    generalize U = u at *
    generalize 2 ^ (-(c : Int) - 1 + 1074).toNat = A at *
    generalize 2 ^ (-1074 - (-(c : Int) - 1)).toNat = R at *
    generalize 2 ^ c = P at *
    rw [show 2 * (k * P) * A = k * (A * (P * 2)) by ac_rfl, e1]; ac_rfl
  have hF := nearest_F false (2 * w + b) (-(c : Int) - 1) (2 ^ 25) (by omega) (key _ hi)
  refine ⟨_, _, rfl, hF, by simp [sgn], ?_, fun k hk => ?_⟩
  · have := rnd_le (rep_U (show 2 ^ 25 < 2 ^ 53 by omega)) (key _ hi)
    have := Int.ofNat_le.2 this
    rw [Int.natCast_mul] at this
    simp only [sgn, Bool.false_eq_true, if_false]; exact this
  · have hk53 : k < 2 ^ 53 := by
      rcases Nat.lt_or_ge k (2 ^ 53) with h | h
      · exact h
      · have := Nat.mul_le_mul h h; omega
    have := rnd_ge (rep_U hk53) (key2 k (by have := lo k hk; omega))
    have := Int.ofNat_le.2 this
    rw [Int.natCast_mul] at this
    simp only [sgn, Bool.false_eq_true, if_false]; exact this

end Go.Proofs.YtmmmknmncdlopaaDoor.F
