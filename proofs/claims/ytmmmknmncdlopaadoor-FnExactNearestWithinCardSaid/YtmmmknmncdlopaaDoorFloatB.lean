/- Floats of 64 bits: what comparisons, sums, halves and roots give, in units of the least float. No condition. -/
import Derived.Test.YtmmmknmncdlopaaDoorFloatA
namespace Go.Proofs.YtmmmknmncdlopaaDoor.F

theorem infRung_val : Ieee.double.infRung = 2047 * 2 ^ 52 := by decide
theorem sw_val : Ieee.double.signWeight = 2 ^ 63 := by decide
theorem binade_val : Ieee.double.binade = 2 ^ 52 := by decide
theorem least_val : Ieee.double.leastPlace = -1074 := by decide

/-- A number with its sign. -/
def sgn (s : Bool) (n : Nat) : Int := if s then -(n : Int) else n
theorem sgn_zero (s : Bool) : sgn s 0 = 0 := by cases s <;> rfl
theorem sgn_abs (s : Bool) (n : Nat) : (sgn s n).natAbs = n := by cases s <;> simp [sgn]

/-- A datum that is a number, in units. -/
def IsD (d : Ieee.Datum) (v : Int) : Prop := ∃ s m p, d = .number s m p ∧ -1074 ≤ p ∧ v = sgn s (m * 2 ^ (p + 1074).toNat)
/-- A word that is a finite float, in units. -/
def IsF (x : Nat) (v : Int) : Prop := ∃ s r, x = Ieee.double.word s r ∧ r < 2047 * 2 ^ 52 ∧ v = sgn s (rv r)

theorem read_word (s : Bool) (r : Nat) (h : r < 2047 * 2 ^ 52) : ∃ m p, Ieee.double.read (Ieee.double.word s r) = .number s m p ∧ -1074 ≤ p ∧ m * 2 ^ (p + 1074).toNat = rv r ∧ m < 2 ^ 53 := by
  have e1 : (Ieee.double.word s r) / 2 ^ 63 % 2 = (if s then 1 else 0) := by
    unfold Ieee.Format.word; rw [sw_val]; cases s <;> simp <;> omega
  have e2 : (Ieee.double.word s r) % 2 ^ 63 = r := by
    unfold Ieee.Format.word; rw [sw_val]; cases s <;> simp <;> omega
  have e3 : ((if s then 1 else 0 : Nat) == 1) = s := by cases s <;> rfl
  unfold Ieee.Format.read
  simp only [sw_val, binade_val, infRung_val, least_val, e1, e2, e3]
  by_cases h0 : r < 2 ^ 52
  · rw [if_pos h0]
    exact ⟨r, -1074, rfl, by omega, by simp [rv, h0], by omega⟩
  · rw [if_neg h0, if_pos h]
    refine ⟨_, _, rfl, by omega, ?_, by omega⟩
    unfold rv
    rw [if_neg h0, show (-1074 + ((r / 2 ^ 52 - 1 : Nat) : Int) + 1074).toNat = r / 2 ^ 52 - 1 by omega]
theorem IsF.read {x : Nat} {v : Int} (h : IsF x v) : IsD (Ieee.double.read x) v := by
  obtain ⟨s, r, rfl, hr, rfl⟩ := h
  obtain ⟨m, p, e, hp, hm, _⟩ := read_word s r hr
  exact ⟨s, m, p, e, hp, by rw [hm]⟩

theorem signed_eq (s : Bool) (m k : Nat) : Ieee.signed s m k = sgn s (m * 2 ^ k) := by
  unfold Ieee.signed sgn; rw [Nat.shiftLeft_eq]
theorem sgn_mul (s : Bool) (a b : Nat) : sgn s (a * b) = sgn s a * b := by
  cases s <;> simp [sgn, Int.neg_mul]
theorem compare_mul (a b : Int) (c : Nat) (hc : 0 < c) : compare (a * c) (b * c) = compare a b := by
  have hc' : (0 : Int) < c := by omega
  have e1 : a * c < b * c ↔ a < b := ⟨fun h => Int.lt_of_mul_lt_mul_right h (by omega), fun h => Int.mul_lt_mul_of_pos_right h hc'⟩
  have e2 : a * c = b * c ↔ a = b := ⟨fun h => Int.eq_of_mul_eq_mul_right (by omega) h, fun h => by rw [h]⟩
  show compareOfLessAndEq (a * c) (b * c) = compareOfLessAndEq a b
  simp only [compareOfLessAndEq, e1, e2]
theorem order_D {a b : Ieee.Datum} {v w : Int} (ha : IsD a v) (hb : IsD b w) : a.order b = some (compare v w) := by
  obtain ⟨s, m, i, rfl, hi, rfl⟩ := ha
  obtain ⟨t, n, j, rfl, hj, rfl⟩ := hb
  show some (compare _ _) = _
  rw [signed_eq, signed_eq]
  congr 1
  generalize hc : (min i j + 1074).toNat = c
  rw [show (i + 1074).toNat = (i - min i j).toNat + c by omega, show (j + 1074).toNat = (j - min i j).toNat + c by omega, Nat.pow_add, Nat.pow_add, ← Nat.mul_assoc, ← Nat.mul_assoc, sgn_mul _ _ (2 ^ c), sgn_mul _ _ (2 ^ c)]
  exact (compare_mul _ _ _ (Nat.two_pow_pos c)).symm
theorem order_F {x y : Nat} {v w : Int} (hx : IsF x v) (hy : IsF y w) : Ieee.double.order x y = some (compare v w) := order_D hx.read hy.read

/-- One unit of the whole numbers. -/
def U : Nat := 2 ^ 1074
theorem pow_up (c d : Nat) (h : c ≤ d) : 2 ^ c ≤ 2 ^ d := Nat.pow_le_pow_right (by omega) h
theorem lt_up (c d : Nat) (h : c < d) : 2 ^ c < 2 ^ d := Nat.pow_lt_pow_right (by omega) h
theorem pow_pos2 (c : Nat) : 0 < 2 ^ c := Nat.two_pow_pos c
theorem U_ex : ∃ c : Nat, c = 1074 ∧ U = 2 ^ c := ⟨1074, rfl, by unfold U; rfl⟩
theorem U_pos : 0 < U := by
  obtain ⟨c, _, e⟩ := U_ex
  rw [e]; exact pow_pos2 c
theorem rep_U {k : Nat} (h : k < 2 ^ 53) : Rep (k * U) := by
  obtain ⟨c, _, e⟩ := U_ex
  exact ⟨k, c, by rw [e], h⟩
theorem big_lt (c d x : Nat) (h : c ≤ d) (hx : 2 ^ 52 ≤ x) (hc : 1090 ≤ c) : 2 ^ 60 * U < x * 2 ^ d := by
  have h1 := pow_up c d h
  have h2 : 2 ^ 52 * 2 ^ c ≤ x * 2 ^ d := Nat.mul_le_mul hx h1
  refine Nat.lt_of_lt_of_le ?_ h2
  obtain ⟨u, hu, e⟩ := U_ex
  rw [e, ← Nat.pow_add, ← Nat.pow_add]
  exact lt_up _ _ (by omega)
theorem rv_big {r : Nat} (h : 2047 * 2 ^ 52 ≤ r) : 2 ^ 60 * U < rv r := by
  unfold rv
  rw [if_neg (by omega)]
  exact big_lt 2046 _ _ (by omega) (Nat.le_add_right _ _) (by omega)
/-- What is not too great is rounded to a finite float. -/
theorem nearest_F (s : Bool) (m : Nat) (p : Int) (B : Nat) (hB : B < 2 ^ 53) (h : m * 2 ^ (p + 1074).toNat ≤ B * U * 2 ^ (-1074 - p).toNat) :
    IsF (Ieee.double.nearest s m p) (sgn s (rv (rnd (m * 2 ^ (p + 1074).toNat) (-1074 - p).toNat))) := by
  rw [nearest_eq, infRung_val]
  have h1 := rnd_le (rep_U hB) h
  generalize rnd (m * 2 ^ (p + 1074).toNat) (-1074 - p).toNat = r at *
  have h2 : r < 2047 * 2 ^ 52 := by
    rcases Nat.lt_or_ge r (2047 * 2 ^ 52) with h | h
    · exact h
    · have := rv_big h
      have h3 : B * U ≤ 2 ^ 53 * U := Nat.mul_le_mul_right _ (by omega)
      have h4 : 2 ^ 53 * U ≤ 2 ^ 60 * U := Nat.mul_le_mul_right _ (by omega)
      omega
  rw [Nat.min_eq_left (by omega)]
  exact ⟨s, r, rfl, h2, rfl⟩

/-- A sum of two numbers, before it is rounded. -/
theorem sum_D {a b : Ieee.Datum} {v w : Int} (ha : IsD a v) (hb : IsD b w) : ∃ s m p, a.sum b = some (.number s m p) ∧ -1074 ≤ p ∧ m * 2 ^ (p + 1074).toNat = (v + w).natAbs ∧ (v + w < 0 → s = true) ∧ (0 < v + w → s = false) ∧ (v + w = 0 → s = (a.neg && b.neg)) := by
  obtain ⟨s, m, i, rfl, hi, rfl⟩ := ha
  obtain ⟨t, n, j, rfl, hj, rfl⟩ := hb
  refine ⟨_, _, _, rfl, by omega, ?_, ?_, ?_, ?_⟩
  all_goals
    rw [signed_eq, signed_eq]
    generalize hc : (min i j + 1074).toNat = c
    rw [show (i + 1074).toNat = (i - min i j).toNat + c by omega, show (j + 1074).toNat = (j - min i j).toNat + c by omega, Nat.pow_add, Nat.pow_add, ← Nat.mul_assoc, ← Nat.mul_assoc, sgn_mul _ _ (2 ^ c), sgn_mul _ _ (2 ^ c), ← Int.add_mul]
    generalize sgn s (m * 2 ^ (i - min i j).toNat) + sgn t (n * 2 ^ (j - min i j).toNat) = T
    have hP : 0 < 2 ^ c := Nat.two_pow_pos c
    generalize 2 ^ c = P at *
  · rw [Int.natAbs_mul]; simp
  · intro h
    have : T < 0 := by
      rcases (show T < 0 ∨ 0 ≤ T by omega) with h1 | h1
      · exact h1
      · have := Int.mul_nonneg h1 (show (0 : Int) ≤ P by omega); omega
    rw [if_neg (by omega)]; simp [this]
  · intro h
    have : 0 < T := by
      rcases (show 0 < T ∨ T ≤ 0 by omega) with h1 | h1
      · exact h1
      · have := Int.mul_nonneg (show 0 ≤ -T by omega) (show (0 : Int) ≤ P by omega)
        rw [Int.neg_mul] at this; omega
    rw [if_neg (by omega)]; simp; omega
  · intro h
    have : T = 0 := by
      rcases Int.mul_eq_zero.1 h with h1 | h1
      · exact h1
      · omega
    rw [if_pos this]; rfl

/-- What a rounding keeps of bounds that are whole numbers. -/
def Keeps (v z : Int) : Prop := (∀ k : Int, k.natAbs < 2 ^ 53 → k * U ≤ v → k * U ≤ z) ∧ (∀ k : Int, k.natAbs < 2 ^ 53 → v ≤ k * U → z ≤ k * U)
theorem keeps_round {T : Int} {s : Bool} {N j : Nat} (hN : N = T.natAbs * 2 ^ j) (h1 : T < 0 → s = true) (h2 : 0 < T → s = false) : Keeps T (sgn s (rv (rnd N j))) := by
  have hU := U_pos
  have hP : 0 < 2 ^ j := Nat.two_pow_pos j
  have hz : T = 0 → rv (rnd N j) = 0 := fun h => by subst hN; subst h; simp [rnd, rv]
  have hge : ∀ k : Nat, k < 2 ^ 53 → k * U ≤ T.natAbs → k * U ≤ rv (rnd N j) := fun k hk h => rnd_ge (rep_U hk) (by rw [hN]; exact Nat.mul_le_mul_right _ h)
  have hle : ∀ k : Nat, k < 2 ^ 53 → T.natAbs ≤ k * U → rv (rnd N j) ≤ k * U := fun k hk h => rnd_le (rep_U hk) (by rw [hN]; exact Nat.mul_le_mul_right _ h)
  have cast : ∀ k : Int, ((k.natAbs * U : Nat) : Int) = if 0 ≤ k then k * U else -(k * U) := fun k => by
    push_cast
    split
    · rw [Int.natAbs_of_nonneg ‹_›]
    · rw [show ((k.natAbs : Nat) : Int) = -k by omega, Int.neg_mul]
  have pos : ∀ k : Int, 0 ≤ k → 0 ≤ k * U := fun k h => Int.mul_nonneg h (by omega)
  have neg : ∀ k : Int, k ≤ 0 → k * U ≤ 0 := fun k h => by have := Int.mul_nonneg (show 0 ≤ -k by omega) (show (0 : Int) ≤ U by omega); rw [Int.neg_mul] at this; omega
  generalize rv (rnd N j) = R at *
  rcases (show T < 0 ∨ T = 0 ∨ 0 < T by omega) with h | h | h
  · rw [h1 h]
    refine ⟨fun k hk hb => ?_, fun k hk hb => ?_⟩
    · have hk0 : k < 0 := by
        rcases (show k < 0 ∨ 0 ≤ k by omega) with e | e
        · exact e
        · have := pos k e; omega
      have c := cast k; rw [if_neg (by omega)] at c
      have := hle k.natAbs hk (by omega)
      simp only [sgn, if_true]; omega
    · rcases (show k < 0 ∨ 0 ≤ k by omega) with e | e
      · have c := cast k; rw [if_neg (by omega)] at c
        have := hge k.natAbs hk (by omega)
        simp only [sgn, if_true]; omega
      · have := pos k e
        simp only [sgn, if_true]; omega
  · rw [hz h, sgn_zero]; subst h
    exact ⟨fun k _ h => h, fun k _ h => h⟩
  · rw [h2 h]
    refine ⟨fun k hk hb => ?_, fun k hk hb => ?_⟩
    · rcases (show k < 0 ∨ 0 ≤ k by omega) with e | e
      · have := neg k (by omega)
        simp only [sgn, if_false, Bool.false_eq_true]; omega
      · have c := cast k; rw [if_pos e] at c
        have := hge k.natAbs hk (by omega)
        simp only [sgn, if_false, Bool.false_eq_true]; omega
    · have hk0 : 0 ≤ k := by
        rcases (show k < 0 ∨ 0 ≤ k by omega) with e | e
        · have := neg k (by omega); omega
        · exact e
      have c := cast k; rw [if_pos hk0] at c
      have := hle k.natAbs hk (by omega)
      simp only [sgn, if_false, Bool.false_eq_true]; omega

theorem sum_F {a b : Ieee.Datum} {v w : Int} (ha : IsD a v) (hb : IsD b w) (B : Nat) (hB : B < 2 ^ 53) (h : (v + w).natAbs ≤ B * U) :
    ∃ r z, (a.sum b).map Ieee.double.write = some r ∧ IsF r z ∧ Keeps (v + w) z := by
  obtain ⟨s, m, p, e, hp, hm, h1, h2, _⟩ := sum_D ha hb
  have hj : (-1074 - p).toNat = 0 := by omega
  refine ⟨_, _, by rw [e]; rfl, nearest_F s m p B hB (by rw [hj, hm]; simpa using h), ?_⟩
  rw [hj]
  exact keeps_round (by rw [hm]; simp) h1 h2
theorem IsD.opposite {d : Ieee.Datum} {v : Int} (h : IsD d v) : IsD d.opposite (-v) := by
  obtain ⟨s, m, p, rfl, hp, rfl⟩ := h
  exact ⟨!s, m, p, rfl, hp, by cases s <;> simp [sgn]⟩
theorem add_F {x y : Nat} {v w : Int} (hx : IsF x v) (hy : IsF y w) (B : Nat) (hB : B < 2 ^ 53) (h : (v + w).natAbs ≤ B * U) : ∃ r z, Ieee.double.add x y = some r ∧ IsF r z ∧ Keeps (v + w) z :=
  sum_F hx.read hy.read B hB h
theorem sub_F {x y : Nat} {v w : Int} (hx : IsF x v) (hy : IsF y w) (B : Nat) (hB : B < 2 ^ 53) (h : (v - w).natAbs ≤ B * U) : ∃ r z, Ieee.double.sub x y = some r ∧ IsF r z ∧ Keeps (v - w) z := by
  have := sum_F hx.read hy.read.opposite B hB (by rw [← Int.sub_eq_add_neg]; exact h)
  rwa [← Int.sub_eq_add_neg] at this

end Go.Proofs.YtmmmknmncdlopaaDoor.F
