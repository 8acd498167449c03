/- The box round a point: what it may leave out. Plain: no program. -/
import Derived.Test.YtmmmknmncdlopaaDoorQuadF
namespace Go.Proofs.YtmmmknmncdlopaaDoor
open Go.ChangeShapes Go.WideShapes Go.ChangeAt Go.RowKit
open Go.Proofs.YtmmmknmncdlopaaDoor.F

theorem xu_le {x : Int} {k : Nat} (hx : x.natAbs ≤ k) : (x * U).natAbs ≤ k * U := by
  rw [natAbs_U]; exact Nat.mul_le_mul_right _ hx
theorem mulU_le {a b : Int} (h : a ≤ b) : a * U ≤ b * U := Int.mul_le_mul_of_nonneg_right h (by have := U_pos; omega)
theorem lt_of_mulU {a b : Int} (h : a * U < b * U) : a < b := by
  rcases (by omega : a < b ∨ b ≤ a) with h2 | h2
  · exact h2
  · have := mulU_le h2; omega

theorem side_lo {x : Int} {n s : Nat} {z : Int} (hx : x.natAbs ≤ 65536) (h1 : IsF s z) (h2 : 0 ≤ z) (h3 : z ≤ (2 ^ 25 : Nat) * U) (h4 : ∀ k : Nat, k * k ≤ n → (k : Int) * U ≤ z) :
    ∃ r, Ieee.double.sub (I x) s = some r ∧ IsF r (val r) ∧ ∀ c : Int, c.natAbs ≤ 65536 → c * U < val r → n < (c - x).natAbs * (c - x).natAbs := by
  have hxu := xu_le hx
  have hb : (x * U - z).natAbs ≤ 2 ^ 26 * U := by
    generalize x * U = X at *
    generalize U = u at *
    omega
  obtain ⟨r, w, e, hr, hk⟩ := sub_F (I_F x (by omega)) h1 (2 ^ 26) (by decide) hb
  have hv := val_of hr
  refine ⟨r, e, hv ▸ hr, fun c hc hlt => ?_⟩
  rw [hv] at hlt
  apply Nat.lt_of_not_le
  intro hle
  have hz := h4 _ hle
  have h5 : x * U - z ≤ (x - (c - x).natAbs) * U := by rw [Int.sub_mul]; omega
  have h6 := hk.2 (x - (c - x).natAbs) (by omega) h5
  have := lt_of_mulU (Int.lt_of_lt_of_le hlt h6)
  omega
theorem side_hi {x : Int} {n s : Nat} {z : Int} (hx : x.natAbs ≤ 65536) (h1 : IsF s z) (h2 : 0 ≤ z) (h3 : z ≤ (2 ^ 25 : Nat) * U) (h4 : ∀ k : Nat, k * k ≤ n → (k : Int) * U ≤ z) :
    ∃ r, Ieee.double.add (I x) s = some r ∧ IsF r (val r) ∧ ∀ c : Int, c.natAbs ≤ 65536 → val r < c * U → n < (c - x).natAbs * (c - x).natAbs := by
  have hxu := xu_le hx
  have hb : (x * U + z).natAbs ≤ 2 ^ 26 * U := by
    generalize x * U = X at *
    generalize U = u at *
    omega
  obtain ⟨r, w, e, hr, hk⟩ := add_F (I_F x (by omega)) h1 (2 ^ 26) (by decide) hb
  have hv := val_of hr
  refine ⟨r, e, hv ▸ hr, fun c hc hlt => ?_⟩
  rw [hv] at hlt
  apply Nat.lt_of_not_le
  intro hle
  have hz := h4 _ hle
  have h5 : (x + (c - x).natAbs) * U ≤ x * U + z := by rw [Int.add_mul]; omega
  have h6 := hk.1 (x + (c - x).natAbs) (by omega) h5
  have := lt_of_mulU (Int.lt_of_le_of_lt h6 hlt)
  omega

/-- The squared distance of an item. -/
def dsq (x y : Int) (p : T3) : Int := (p.1 - x) * (p.1 - x) + (p.2.1 - y) * (p.2.1 - y)
theorem dsq_nat (x y : Int) (p : T3) : dsq x y p = ((p.1 - x).natAbs * (p.1 - x).natAbs + (p.2.1 - y).natAbs * (p.2.1 - y).natAbs : Nat) := by
  unfold dsq; rw [Int.natCast_add, Int.natAbs_mul_self, Int.natAbs_mul_self]
theorem dsq_nonneg (x y : Int) (p : T3) : 0 ≤ dsq x y p := by rw [dsq_nat]; omega
theorem dsq_lt {x y : Int} {p : T3} (hx : x.natAbs ≤ 65536) (hy : y.natAbs ≤ 65536) (hp : Sm p) : dsq x y p < 2 ^ 40 := by
  rw [dsq_nat]
  have h1 : (p.1 - x).natAbs * (p.1 - x).natAbs ≤ 131072 * 131072 := Nat.mul_le_mul (by have := hp.1; omega) (by have := hp.1; omega)
  have h2 : (p.2.1 - y).natAbs * (p.2.1 - y).natAbs ≤ 131072 * 131072 := Nat.mul_le_mul (by have := hp.2; omega) (by have := hp.2; omega)
  omega
/-- The box of a whole squared distance leaves out none that is as near. -/
theorem box_ok {x y : Int} (n : Nat) (hn : n < 2 ^ 50) (hx : x.natAbs ≤ 65536) (hy : y.natAbs ≤ 65536) : ∃ s x0 x1 y0 y1, Ieee.double.sqrt (I n) = some s ∧
    Ieee.double.sub (I x) s = some x0 ∧ Ieee.double.add (I x) s = some x1 ∧ Ieee.double.sub (I y) s = some y0 ∧ Ieee.double.add (I y) s = some y1 ∧
    IsF x0 (val x0) ∧ IsF y0 (val y0) ∧ IsF x1 (val x1) ∧ IsF y1 (val y1) ∧ ∀ p, Sm p → Out p x0 y0 x1 y1 → (n : Int) < dsq x y p := by
  obtain ⟨s, z, e, h1, h2, h3, h4⟩ := sqrt_F n hn
  obtain ⟨x0, e1, f1, g1⟩ := side_lo hx h1 h2 h3 h4
  obtain ⟨x1, e2, f2, g2⟩ := side_hi hx h1 h2 h3 h4
  obtain ⟨y0, e3, f3, g3⟩ := side_lo hy h1 h2 h3 h4
  obtain ⟨y1, e4, f4, g4⟩ := side_hi hy h1 h2 h3 h4
  refine ⟨s, x0, x1, y0, y1, e, e1, e2, e3, e4, f1, f3, f2, f4, fun p hp ho => ?_⟩
  have hp1 : p.1.natAbs ≤ 65536 := by have := hp.1; omega
  have hp2 : p.2.1.natAbs ≤ 65536 := by have := hp.2; omega
  rw [dsq_nat]
  rcases ho with h | h | h | h
  · have := g2 _ hp1 h; omega
  · have := g1 _ hp1 h; omega
  · have := g4 _ hp2 h; omega
  · have := g3 _ hp2 h; omega

end Go.Proofs.YtmmmknmncdlopaaDoor
