/- The small functions on tiles: what each returns. Conditions: the numbers' bounds. -/
import Derived.Test.YtcphidhheigcbaaBase
namespace Go.Proofs.Ytcphidhheigcbaa
open Go.ChangeShapes Go.WideShapes Go.ChangeAt Go.RowKit

set_option maxHeartbeats 400000 in
theorem new_any (x y z : Int) (w : World) :
    Calls Try.prog 41 #[.int .u32 x, .int .u32 y, .int .u32 z] w fun e w' => e = .returned (.agg #[.int .u32 x, .int .u32 y, .int .u32 z]) ∧ Ext w w' := by
  go_enter Try.func41, Try.ntmps41
  go_wp2
  exact bodyPost_ret (v := .agg #[.int .u32 x, .int .u32 y, .int .u32 z]) (by simp [results, Try.results41, go_sem]) rfl ⟨rfl, (Ext.refl _).alloc _⟩

set_option maxHeartbeats 400000 in
theorem tile_any (x y z : Int) (w : World) (hx0 : 0 ≤ x) (hx1 : x ≤ 4294967295) (hy0 : 0 ≤ y) (hy1 : y ≤ 4294967295) (hz0 : 0 ≤ z) (hz1 : z ≤ 4294967295) :
    Calls Try.prog 27 #[.agg #[.int .i64 x, .int .i64 y, .int .i64 z]] w fun e w' => e = .returned (.agg #[.int .u32 x, .int .u32 y, .int .u32 z]) ∧ Ext w w' := by
  go_enter Try.func27, Try.ntmps27
  go_wp2_with (go_at_call 41; refine (new_any _ _ _ _).mono ?_; rintro e w1 ⟨rfl, hb⟩; obtain ⟨hc, hf⟩ := bcell hb)
  exact bodyPost_ret (v := .agg #[.int .u32 x, .int .u32 y, .int .u32 z]) (by simp [results, Try.results27, go_sem, hc]) rfl ⟨rfl,
    ((((((Ext.refl _).alloc _).alloc _).trans hb).setCell (by simp) _).setCell (by simp) _).setCell (by simp) _⟩

set_option maxHeartbeats 400000 in
theorem plain_any (x y z : Int) (w : World) (hx0 : 0 ≤ x) (hx1 : x ≤ 4294967295) (hy0 : 0 ≤ y) (hy1 : y ≤ 4294967295) (hz0 : 0 ≤ z) (hz1 : z ≤ 4294967295) :
    Calls Try.prog 30 #[.agg #[.int .u32 x, .int .u32 y, .int .u32 z]] w fun e w' => e = .returned (.agg #[.int .i64 x, .int .i64 y, .int .i64 z]) ∧ Ext w w' := by
  go_enter Try.func30, Try.ntmps30
  go_wp2
  exact bodyPost_ret (v := .agg #[.int .i64 x, .int .i64 y, .int .i64 z]) (by simp [results, Try.results30, go_sem]) rfl ⟨rfl, ((Ext.refl _).alloc _).alloc _⟩

set_option maxHeartbeats 400000 in
theorem mvalid_any (x y z : Int) (w : World) (hz0 : 0 ≤ z) (hz1 : z ≤ 31) :
    Calls Try.prog 28 #[.agg #[.int .u32 x, .int .u32 y, .int .u32 z]] w fun e w' => e = .returned (.bool (decide (x < 2 ^ z.toNat) && decide (y < 2 ^ z.toNat))) ∧ Ext w w' := by
  have hp : (2 : Int) ^ z.toNat % 4294967296 = 2 ^ z.toNat := by
    have h1 : (2 : Int) ^ z.toNat ≤ 2 ^ 31 := by exact_mod_cast Nat.pow_le_pow_right (by omega) (by omega)
    have h2 : (0 : Int) < 2 ^ z.toNat := by exact_mod_cast Nat.pow_pos (by omega)
    omega
  have Hp := Lib.hid hp; clear hp
  by_cases hx : x < 2 ^ z.toNat % 4294967296
  · go_enter Try.func28, Try.ntmps28
    go_wp2
    go_ret
    rw [Hp.out] at hx ⊢
    exact ⟨by simp [hx], (Ext.refl _).alloc _⟩
  · go_enter Try.func28, Try.ntmps28
    go_wp2
    go_ret
    rw [Hp.out] at hx
    have hx' : ¬ x < 2 ^ z.toNat := by omega
    exact ⟨by simp [hx'], (Ext.refl _).alloc _⟩

set_option maxHeartbeats 400000 in
theorem valid_any (x y z : Int) (w : World) (hx0 : 0 ≤ x) (hx1 : x ≤ 4294967295) (hy0 : 0 ≤ y) (hy1 : y ≤ 4294967295) (hz0 : 0 ≤ z) (hz1 : z ≤ 31) :
    Calls Try.prog 13 #[.agg #[.int .i64 x, .int .i64 y, .int .i64 z]] w fun e w' => e = .returned (.bool (decide (x < 2 ^ z.toNat) && decide (y < 2 ^ z.toNat))) ∧ Ext w w' := by
  go_enter Try.func13, Try.ntmps13
  go_wp2_with (first | (go_at_call 27; refine (tile_any _ _ _ _ (by omega) (by omega) (by omega) (by omega) (by omega) (by omega)).mono ?_; rintro e w1 ⟨rfl, hb⟩) | (go_at_call 28; refine (mvalid_any _ _ _ _ (by omega) (by omega)).mono ?_; rintro e w2 ⟨rfl, hb2⟩))
  go_ret
  exact ⟨rfl, (((Ext.refl _).alloc _).trans hb).trans hb2⟩

theorem pow_bd (n : Nat) (h : n ≤ 31) : (0 : Int) < 2 ^ n ∧ (2 : Int) ^ n ≤ 2147483648 := by
  have h1 : (2 : Int) ^ n ≤ 2 ^ 31 := by exact_mod_cast Nat.pow_le_pow_right (by omega) h
  have h2 : (0 : Int) < 2 ^ n := by exact_mod_cast Nat.pow_pos (by omega)
  omega

set_option maxHeartbeats 400000 in
theorem stile_any (x y z : Int) (w : World) (hx0 : 0 ≤ x) (hx1 : x ≤ 4294967295) (hy0 : 0 ≤ y) (hy1 : y ≤ 4294967295) (hz0 : 0 ≤ z) (hz1 : z ≤ 255) :
    Calls Try.prog 14 #[.int .u32 x, .int .u32 y, .int .u8 z] w fun e w' => e = .returned (.agg #[.int .i64 (x % 2 ^ (z % 31).toNat), .int .i64 (y % 2 ^ (z % 31).toNat), .int .i64 (z % 31)]) ∧ Ext w w' := by
  obtain ⟨hp0, hp1⟩ := pow_bd (z % 31).toNat (by omega)
  generalize hm : (2 : Int) ^ (z % 31).toNat = m at *
  have hw : IntKind.i64.wrap m = m := IntWalk.i64_in _ (by omega)
  have hne : ¬ m = 0 := by omega
  have hbx : IntKind.i64.wrap x = x := IntWalk.i64_in _ (by omega)
  have hby : IntKind.i64.wrap y = y := IntWalk.i64_in _ (by omega)
  have hmx : x.tmod m = x % m := Int.tmod_eq_emod_of_nonneg hx0
  have hmy : y.tmod m = y % m := Int.tmod_eq_emod_of_nonneg hy0
  have hx2 : x % m < m := Int.emod_lt_of_pos _ hp0
  have hy2 : y % m < m := Int.emod_lt_of_pos _ hp0
  have hx3 : 0 ≤ x % m := Int.emod_nonneg _ hne
  have hy3 : 0 ≤ y % m := Int.emod_nonneg _ hne
  go_enter Try.func14, Try.ntmps14
  go_wp2
  go_region
  go_wp2
  exact bodyPost_ret (v := .agg #[.int .i64 (x % m), .int .i64 (y % m), .int .i64 (z % 31)]) (by simp [results, Try.results14, go_sem]) rfl ⟨rfl, ((Ext.refl _).alloc _).drew⟩

set_option maxHeartbeats 400000 in
theorem zoom_up (x y z k : Int) (w : World) (hz0 : 0 ≤ z) (hz1 : z ≤ 31) (hk : k ≤ z) (hk0 : 0 ≤ k) :
    Calls Try.prog 42 #[.agg #[.int .u32 x, .int .u32 y, .int .u32 z], .int .u32 k] w fun e w' => e = .returned (.agg #[.int .u32 (x / 2 ^ (z - k).toNat), .int .u32 (y / 2 ^ (z - k).toNat), .int .u32 k]) ∧ Ext w w' := by
  go_enter Try.func42, Try.ntmps42
  go_wp2
  exact bodyPost_ret (v := .agg #[.int .u32 (x / 2 ^ (z - k).toNat), .int .u32 (y / 2 ^ (z - k).toNat), .int .u32 k]) (by simp [results, Try.results42, go_sem]) rfl ⟨rfl, ((Ext.refl _).alloc _).alloc _⟩

set_option maxHeartbeats 400000 in
theorem mparent_any (x y z : Int) (w : World) (hz0 : 0 < z) (hz1 : z ≤ 4294967295) :
    Calls Try.prog 31 #[.agg #[.int .u32 x, .int .u32 y, .int .u32 z]] w fun e w' => e = .returned (.agg #[.int .u32 (x / 2), .int .u32 (y / 2), .int .u32 (z - 1)]) ∧ Ext w w' := by
  have hz : (z == 0) = false := by rw [beq_eq_false_iff_ne]; omega
  go_enter Try.func31, Try.ntmps31
  go_wp2
  exact bodyPost_ret (v := .agg #[.int .u32 (x / 2), .int .u32 (y / 2), .int .u32 (z - 1)]) (by simp [results, Try.results31, go_sem]) rfl ⟨rfl, ((Ext.refl _).alloc _).alloc _⟩

set_option maxHeartbeats 400000 in
theorem mchildren_any (x y z : Int) (w : World) (hz0 : 0 ≤ z) (hz1 : z ≤ 31) (hx0 : 0 ≤ x) (hx1 : x ≤ 1073741824) (hy0 : 0 ≤ y) (hy1 : y ≤ 1073741824) :
    Calls Try.prog 33 #[.agg #[.int .u32 x, .int .u32 y, .int .u32 z]] w fun e w' => e = .returned (.slice (some ⟨w.heap.size + 1, 0, none⟩) 4 4) ∧
      w' = (w.alloc (.cells #[.int .u32 x, .int .u32 y, .int .u32 z] 48)).alloc (.cells #[.int .u32 (x * 2), .int .u32 (y * 2), .int .u32 (z + 1), .int .u32 (x * 2 + 1), .int .u32 (y * 2), .int .u32 (z + 1),
        .int .u32 (x * 2 + 1), .int .u32 (y * 2 + 1), .int .u32 (z + 1), .int .u32 (x * 2), .int .u32 (y * 2 + 1), .int .u32 (z + 1)] 48) := by
  go_enter Try.func33, Try.ntmps33
  go_wp2
  go_ret
  exact ⟨rfl, rfl⟩

end Go.Proofs.Ytcphidhheigcbaa
