/- The functions on tiles that hold loops: what each returns. Conditions: the numbers' bounds. -/
import Derived.Test.YtcphidhheigcbaaTileA
import Derived.Test.YtcphidhheigcbaaKeys
import Derived.Deep.LoopGhost
namespace Go.Proofs.Ytcphidhheigcbaa
open Go.ChangeShapes Go.WideShapes Go.ChangeAt Go.RowKit

set_option maxHeartbeats 400000 in
theorem over_any (x y z k : Int) (w : World) (hk0 : 0 ≤ k) (hk : k ≤ z) (hz1 : z ≤ 31) (hx0 : 0 ≤ x) (hy0 : 0 ≤ y) (hx1 : x ≤ 4294967295) (hy1 : y ≤ 4294967295)  :
    Calls Try.prog 17 #[.agg #[.int .i64 x, .int .i64 y, .int .i64 z], .int .i64 k] w fun e w' => e = .returned (.agg #[.int .i64 (x / 2 ^ (z - k).toNat), .int .i64 (y / 2 ^ (z - k).toNat), .int .i64 k]) ∧ Ext w w' := by
  go_enter Try.func17, Try.ntmps17
  go_wp2
  go_loopg [] ((z - k).toNat) (fun n wr => ∃ j : Nat, n + j = (z - k).toNat ∧ wr = (w.alloc (Obj.cells #[.int .i64 (x / 2 ^ j), .int .i64 (y / 2 ^ j), .int .i64 (z - j)] 25)).alloc (Obj.cells #[.int .i64 0, .int .i64 0, .int .i64 0] 25))
  case atStart => exact ⟨0, by simp, by simp⟩
  case round =>
    obtain ⟨j, hj, rfl⟩ := hrel
    have hx : 0 ≤ x / 2 ^ j := Int.ediv_nonneg hx0 (Int.le_of_lt (pow_bd j (by omega)).1)
    have hx' : x / 2 ^ j ≤ x := Int.ediv_le_self _ hx0
    have hy : 0 ≤ y / 2 ^ j := Int.ediv_nonneg hy0 (Int.le_of_lt (pow_bd j (by omega)).1)
    have hy' : y / 2 ^ j ≤ y := Int.ediv_le_self _ hy0
    by_cases hlt : k < z - j
    · go_wp2
      go_roundg (gk - 1)
      case measure => omega
      case rel => exact ⟨j + 1, by omega, by rw [show z - ((j + 1 : Nat) : Int) = z - j - 1 by omega, Int.pow_succ, Int.ediv_ediv_of_nonneg (Int.le_of_lt (pow_bd j (by omega)).1), Int.ediv_ediv_of_nonneg (Int.le_of_lt (pow_bd j (by omega)).1)]⟩
    · have hk' : z - j = k := by omega
      have hj' : j = (z - k).toNat := by omega
      subst hj'
      have Hk := Lib.hid hk'; clear hk'
      go_wp2
      exact bodyPost_ret (v := .agg #[.int .i64 (x / 2 ^ (z - k).toNat), .int .i64 (y / 2 ^ (z - k).toNat), .int .i64 (z - ((z - k).toNat : Int))]) (by simp [results, Try.results17, go_sem]) rfl ⟨by rw [Hk.out], ((Ext.refl _).alloc _).alloc _⟩

set_option maxHeartbeats 400000 in
theorem quadkey_any (x y : Nat) (z : Int) (w : World) (hz0 : 0 ≤ z) (hz1 : z ≤ 31) (hx1 : x < 4294967296) (hy1 : y < 4294967296) :
    Calls Try.prog 29 #[.agg #[.int .u32 x, .int .u32 y, .int .u32 z]] w fun e w' => e = .returned (.int .u64 (keyF x y z.toNat : Nat)) ∧ Ext w w' := by
  go_enter Try.func29, Try.ntmps29
  go_wp2
  go_loop [3, 4] (fun i r => ∃ j : Nat, j ≤ z.toNat ∧ i = .int .u64 j ∧ r = .int .u64 (keyF x y j : Nat)) (fun i _ => z.toNat - (intOf i).toNat)
  case atStart => exact ⟨0, by omega, rfl, rfl⟩
  case round =>
    obtain ⟨j, hj, rfl, rfl⟩ := hrel
    by_cases hlt : (j : Int) < z
    · have H := Lib.hid (key_round x y j hx1 hy1 (by omega))
      go_wp2
      go_round
      case rel => exact ⟨j + 1, by omega, by go_num, by rw [H.out]⟩
      case measure => simp [intOf]; omega
    · have hj' : j = z.toNat := by omega
      subst hj'
      go_wp2
      go_ret
      exact ⟨rfl, (Ext.refl _).alloc _⟩

set_option maxHeartbeats 400000 in
theorem fromkey_any (q x y : Nat) (z : Int) (w : World) (hz0 : 0 ≤ z) (hz1 : z ≤ 31) (hq : q < 18446744073709551616)
    (hb : ∀ i : Nat, i < z.toNat → q.testBit (2 * i) = x.testBit i ∧ q.testBit (2 * i + 1) = y.testBit i) :
    Calls Try.prog 36 #[.int .u64 q, .int .u32 z] w fun e w' => e = .returned (.agg #[.int .u32 (x % 2 ^ z.toNat : Nat), .int .u32 (y % 2 ^ z.toNat : Nat), .int .u32 z]) ∧ Ext w w' := by
  have HB := Lib.hid hb; clear hb
  go_enter Try.func36, Try.ntmps36
  go_wp2
  go_loopg [6] (z.toNat) (fun n i wr => ∃ j : Nat, n + j = z.toNat ∧ i = .int .u32 j ∧ wr = (w.alloc (.cells #[.int .u32 0, .int .u32 0, .int .u32 0] 48)).alloc (.cells #[.int .u32 (x % 2 ^ j : Nat), .int .u32 (y % 2 ^ j : Nat), .int .u32 z] 48))
  case atStart => exact ⟨0, by omega, rfl, by simp [Nat.mod_one]⟩
  case round =>
    obtain ⟨j, hj, rfl, rfl⟩ := hrel
    by_cases hlt : (j : Int) < z
    · have H1 := Lib.hid (back_round q x (2 * j) j j hq (by omega) (by omega) (by omega) (HB.out j (by omega)).1)
      have H2 := Lib.hid (back_round q y (2 * j + 1) (j + 1) j hq (by omega) (by omega) (by omega) (HB.out j (by omega)).2)
      go_wp2
      go_roundg (gk - 1)
      case measure => omega
      case rel => exact ⟨j + 1, by omega, by go_num, by rw [H1.out, H2.out]⟩
    · have hj' : j = z.toNat := by omega
      subst hj'
      go_wp2
      exact bodyPost_ret (v := .agg #[.int .u32 (x % 2 ^ z.toNat : Nat), .int .u32 (y % 2 ^ z.toNat : Nat), .int .u32 z]) (by simp [results, Try.results36, go_sem]) rfl ⟨rfl, ((Ext.refl _).alloc _).alloc _⟩

end Go.Proofs.Ytcphidhheigcbaa
