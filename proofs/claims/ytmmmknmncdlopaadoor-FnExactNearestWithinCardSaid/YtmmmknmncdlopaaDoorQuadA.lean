/- Points: what the small functions on them give. Conditions: finite floats. -/
import Derived.Test.YtmmmknmncdlopaaDoorTileA
import Derived.Test.YtmmmknmncdlopaaDoorRegionE
import Derived.Test.YtmmmknmncdlopaaDoorFloatC
import Derived.Laws.FloatArith
namespace Go.Proofs.YtmmmknmncdlopaaDoor
open Go.ChangeShapes Go.WideShapes Go.ChangeAt Go.RowKit
open Go.Proofs.YtmmmknmncdlopaaDoor.F

/-- A float64. -/
abbrev fl (x : Nat) : Value := .float .f64 x

theorem ord_fact {x y : Nat} {v w : Int} (hx : IsF x v) (hy : IsF y w) : FloatKind.f64.format.order x y = some (compare v w) := order_F hx hy
theorem cmp_lt {v w : Int} (h : v < w) : compare v w = .lt := by
  show compareOfLessAndEq v w = _; simp [compareOfLessAndEq, h]
theorem cmp_eq {v w : Int} (h : v = w) : compare v w = .eq := by
  show compareOfLessAndEq v w = _; simp [compareOfLessAndEq, h]
theorem cmp_gt {v w : Int} (h : w < v) : compare v w = .gt := by
  show compareOfLessAndEq v w = _; rw [compareOfLessAndEq, if_neg (by omega), if_neg (by omega)]

theorem tri (v w : Int) : ∃ o : Ordering, compare v w = o ∧ ((o = .lt ∧ v < w) ∨ (o = .eq ∧ v = w) ∨ (o = .gt ∧ w < v)) := by
  rcases (show v < w ∨ v = w ∨ w < v by omega) with h | h | h
  · exact ⟨_, cmp_lt h, .inl ⟨rfl, h⟩⟩
  · exact ⟨_, cmp_eq h, .inr (.inl ⟨rfl, h⟩)⟩
  · exact ⟨_, cmp_gt h, .inr (.inr ⟨rfl, h⟩)⟩

set_option maxHeartbeats 1600000 in
theorem child_any (cx cy px py : Nat) (vx vy wx wy : Int) (w : World) (hcx : IsF cx vx) (hcy : IsF cy vy) (hpx : IsF px wx) (hpy : IsF py wy) :
    Calls Tryd.prog 56 #[fl cx, fl cy, .agg #[fl px, fl py]] w fun e w' => (∃ i : Int, e = .returned (.int .i64 i) ∧ 0 ≤ i ∧ i ≤ 3) ∧ Ext w w' := by
  have o1 := ord_fact hpy hcy
  have o2 := ord_fact hpx hcx
  clear hcx hcy hpx hpy
  obtain ⟨a, ha, _⟩ := tri wy vy
  obtain ⟨b, hb, _⟩ := tri wx vx
  rw [ha] at o1; rw [hb] at o2
  clear ha hb
  cases a <;> cases b <;>
    (go_enter Tryd.func56, Tryd.ntmps56
     go_wp2
     go_ret
     exact ⟨⟨_, rfl, by omega, by omega⟩, (Ext.refl _).alloc _⟩)

/-- A store of a float, for the walk. -/
theorem st_fl : ∀ (W : World) (a : Addr) (b : Nat) (m : Mode), (store a (fl b) m).run Tryd.prog W = stored Tryd.prog W a (fl b) m := fun W a b m => run_store Tryd.prog W a _ m rfl
/-- Where an item is. -/
theorem point_any (x y n : Int) (w : World) :
    Calls Tryd.prog 31 #[.agg #[.int .i64 x, .int .i64 y, .int .i64 n]] w fun e w' => e = .returned (.agg #[fl (I x), fl (I y)]) ∧ Ext w w' := by
  have st := st_fl
  go_enter Tryd.func31, Tryd.ntmps31
  go_wp2
  exact bodyPost_ret (v := .agg #[fl (I x), fl (I y)]) (by simp [results, Tryd.results31, go_sem, I, floatOfInt]) rfl ⟨rfl, ((Ext.refl _).alloc _).alloc _⟩

set_option maxHeartbeats 800000 in
theorem sqrt_any (n : Nat) (r : Nat) (hr : Ieee.double.sqrt (I n) = some r) (w : World) :
    Calls Tryd.prog 104 #[fl (I n)] w fun e w' => e = .returned (fl r) ∧ w = w' := by
  have hx := fun W => run_callFunc_extern Tryd.func105 (by kernel_rfl) (by kernel_rfl) (by kernel_rfl) (e := Extern.MathSqrt.sqrt) (by kernel_rfl) #[fl (I n)] W
  have hs : ∀ W, (Extern.MathSqrt.sqrt #[fl (I n)]).run Tryd.prog W = .ok (fl r) W := fun W => by
    have e : Extern.MathSqrt.sqrt #[fl (I n)] = (match FloatKind.f64.format.sqrt (I n) with | some r => pure (.float .f64 r) | none => do pure (.float .f64 (← choose (.nanBits .f64 (I n) (I n))))) := rfl
    have h : FloatKind.f64.format.sqrt (I n) = some r := hr
    rw [e, h]
    rfl
  go_enter Tryd.func104, Tryd.ntmps104
  go_wp2_with fail
  go_ret
  exact ⟨rfl, rfl⟩

/-- An operation on floats, for the walk. -/
theorem run_fl (op : BinOp) (x y r : Nat) (h : floatBits op .f64 x y = some r) : ∀ W, (binOp op 62 (fl x) (fl y)).run Tryd.prog W = .ok (fl r) W :=
  fun W => run_float_arith W op 62 .f64 x y r h

set_option maxHeartbeats 800000 in
theorem dist_any (x y a b : Int) (w : World) (hx : x.natAbs ≤ 65536) (hy : y.natAbs ≤ 65536) (ha : a.natAbs ≤ 65536) (hb : b.natAbs ≤ 65536) :
    Calls Tryd.prog 103 #[.agg #[fl (I x), fl (I y)], .agg #[fl (I a), fl (I b)]] w fun e w' => e = .returned (fl (I ((x - a) * (x - a) + (y - b) * (y - b)))) ∧ Ext w w' := by
  have q1 : ((x - a) * (x - a)).natAbs ≤ 131072 * 131072 := by rw [Int.natAbs_mul]; exact Nat.mul_le_mul (by omega) (by omega)
  have q2 : ((y - b) * (y - b)).natAbs ≤ 131072 * 131072 := by rw [Int.natAbs_mul]; exact Nat.mul_le_mul (by omega) (by omega)
  have s1 := run_fl .sub (I x) (I a) _ (I_sub x a (by omega) (by omega))
  have s2 := run_fl .sub (I y) (I b) _ (I_sub y b (by omega) (by omega))
  have m1 := run_fl .mul (I (x - a)) (I (x - a)) _ (I_sq _ (by omega))
  have m2 := run_fl .mul (I (y - b)) (I (y - b)) _ (I_sq _ (by omega))
  have a1 := run_fl .add (I ((x - a) * (x - a))) (I ((y - b) * (y - b))) _ (I_add _ _ (by omega) (by omega))
  clear q1 q2
  go_enter Tryd.func103, Tryd.ntmps103
  go_wp2
  go_ret
  exact ⟨rfl, ((Ext.refl _).alloc _).alloc _⟩

/-- The middle of two floats that are not too great. -/
theorem mid_any {x y : Nat} {v w : Int} (hx : IsF x v) (hy : IsF y w) (hv : v.natAbs ≤ 65536 * U) (hw : w.natAbs ≤ 65536 * U) :
    ∃ (s m : Nat) (z : Int), (∀ W, (binOp .add 62 (fl x) (fl y)).run Tryd.prog W = .ok (fl s) W) ∧ (∀ W, (binOp .quo 62 (fl s) (.float .f64 4611686018427387904)).run Tryd.prog W = .ok (fl m) W) ∧ IsF m z ∧ z.natAbs ≤ 65536 * U := by
  have hU := U_pos
  have hb : (v + w).natAbs ≤ 131072 * U := by
    have := Int.natAbs_add_le v w
    generalize U = u at *
    omega
  obtain ⟨s, q, e1, h1, hk⟩ := add_F hx hy 131072 (by omega) hb
  have hq : q.natAbs ≤ 2 * (65536 * U) := by
    have k1 := hk.1 (-131072) (by decide) (by generalize U = u at *; omega)
    have k2 := hk.2 131072 (by decide) (by generalize U = u at *; omega)
    generalize U = u at *
    omega
  obtain ⟨m, z, e2, h2, hz⟩ := half_F h1 65536 (by omega) hq
  exact ⟨s, m, z, run_fl .add x y s e1, run_fl .quo s two m e2, h2, hz 65536 (by omega) hq⟩

end Go.Proofs.YtmmmknmncdlopaaDoor
