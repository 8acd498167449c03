/- The small functions on tiles: what each returns. Conditions: the numbers' bounds. -/
import Derived.Test.YtmmmknmncdlopaaDoorBase
namespace Go.Proofs.YtmmmknmncdlopaaDoor
open Go.ChangeShapes Go.WideShapes Go.ChangeAt Go.RowKit

set_option maxHeartbeats 400000 in
theorem new_any (x y z : Int) (w : World) :
    Calls Tryd.prog 46 #[.int .u32 x, .int .u32 y, .int .u32 z] w fun e w' => e = .returned (.agg #[.int .u32 x, .int .u32 y, .int .u32 z]) ∧ Ext w w' := by
  go_enter Tryd.func46, Tryd.ntmps46
  go_wp2
  exact bodyPost_ret (v := .agg #[.int .u32 x, .int .u32 y, .int .u32 z]) (by simp [results, Tryd.results46, go_sem]) rfl ⟨rfl, (Ext.refl _).alloc _⟩

set_option maxHeartbeats 400000 in
theorem tile_any (x y z : Int) (w : World) (hx0 : 0 ≤ x) (hx1 : x ≤ 4294967295) (hy0 : 0 ≤ y) (hy1 : y ≤ 4294967295) (hz0 : 0 ≤ z) (hz1 : z ≤ 4294967295) :
    Calls Tryd.prog 32 #[.agg #[.int .i64 x, .int .i64 y, .int .i64 z]] w fun e w' => e = .returned (.agg #[.int .u32 x, .int .u32 y, .int .u32 z]) ∧ Ext w w' := by
  go_enter Tryd.func32, Tryd.ntmps32
  go_wp2_with (go_at_call 46; refine (new_any _ _ _ _).mono ?_; rintro e w1 ⟨rfl, hb⟩; obtain ⟨hc, hf⟩ := bcell hb)
  exact bodyPost_ret (v := .agg #[.int .u32 x, .int .u32 y, .int .u32 z]) (by simp [results, Tryd.results32, go_sem, hc]) rfl ⟨rfl,
    ((((((Ext.refl _).alloc _).alloc _).trans hb).setCell (by simp) _).setCell (by simp) _).setCell (by simp) _⟩

set_option maxHeartbeats 400000 in
theorem mvalid_any (x y z : Int) (w : World) (hz0 : 0 ≤ z) (hz1 : z ≤ 31) :
    Calls Tryd.prog 33 #[.agg #[.int .u32 x, .int .u32 y, .int .u32 z]] w fun e w' => e = .returned (.bool (decide (x < 2 ^ z.toNat) && decide (y < 2 ^ z.toNat))) ∧ Ext w w' := by
  have hp : (2 : Int) ^ z.toNat % 4294967296 = 2 ^ z.toNat := by
    have h1 : (2 : Int) ^ z.toNat ≤ 2 ^ 31 := by exact_mod_cast Nat.pow_le_pow_right (by omega) (by omega)
    have h2 : (0 : Int) < 2 ^ z.toNat := by exact_mod_cast Nat.pow_pos (by omega)
    omega
  have Hp := Lib.hid hp; clear hp
  by_cases hx : x < 2 ^ z.toNat % 4294967296
  · go_enter Tryd.func33, Tryd.ntmps33
    go_wp2
    go_ret
    rw [Hp.out] at hx ⊢
    exact ⟨by simp [hx], (Ext.refl _).alloc _⟩
  · go_enter Tryd.func33, Tryd.ntmps33
    go_wp2
    go_ret
    rw [Hp.out] at hx
    have hx' : ¬ x < 2 ^ z.toNat := by omega
    exact ⟨by simp [hx'], (Ext.refl _).alloc _⟩

set_option maxHeartbeats 400000 in
theorem valid_any (x y z : Int) (w : World) (hx0 : 0 ≤ x) (hx1 : x ≤ 4294967295) (hy0 : 0 ≤ y) (hy1 : y ≤ 4294967295) (hz0 : 0 ≤ z) (hz1 : z ≤ 31) :
    Calls Tryd.prog 15 #[.agg #[.int .i64 x, .int .i64 y, .int .i64 z]] w fun e w' => e = .returned (.bool (decide (x < 2 ^ z.toNat) && decide (y < 2 ^ z.toNat))) ∧ Ext w w' := by
  go_enter Tryd.func15, Tryd.ntmps15
  go_wp2_with (first | (go_at_call 32; refine (tile_any _ _ _ _ (by omega) (by omega) (by omega) (by omega) (by omega) (by omega)).mono ?_; rintro e w1 ⟨rfl, hb⟩) | (go_at_call 33; refine (mvalid_any _ _ _ _ (by omega) (by omega)).mono ?_; rintro e w2 ⟨rfl, hb2⟩))
  go_ret
  exact ⟨rfl, (((Ext.refl _).alloc _).trans hb).trans hb2⟩

theorem pow_bd (n : Nat) (h : n ≤ 31) : (0 : Int) < 2 ^ n ∧ (2 : Int) ^ n ≤ 2147483648 := by
  have h1 : (2 : Int) ^ n ≤ 2 ^ 31 := by exact_mod_cast Nat.pow_le_pow_right (by omega) h
  have h2 : (0 : Int) < 2 ^ n := by exact_mod_cast Nat.pow_pos (by omega)
  omega

end Go.Proofs.YtmmmknmncdlopaaDoor
