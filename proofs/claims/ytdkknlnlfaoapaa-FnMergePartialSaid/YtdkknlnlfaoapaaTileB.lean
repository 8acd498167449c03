/- The functions on tiles that hold loops: what each returns. Conditions: the numbers' bounds. -/
import Derived.Test.YtdkknlnlfaoapaaTileA
import Derived.Test.YtdkknlnlfaoapaaKeys
import Derived.Deep.LoopGhost
namespace Go.Proofs.Ytdkknlnlfaoapaa
open Go.ChangeShapes Go.WideShapes Go.ChangeAt Go.RowKit

set_option maxHeartbeats 400000 in
theorem over_any (x y z k : Int) (w : World) (hk0 : 0 ≤ k) (hk : k ≤ z) (hz1 : z ≤ 31) (hx0 : 0 ≤ x) (hy0 : 0 ≤ y) (hx1 : x ≤ 4294967295) (hy1 : y ≤ 4294967295)  :
    Calls Try.prog 11 #[.agg #[.int .i64 x, .int .i64 y, .int .i64 z], .int .i64 k] w fun e w' => e = .returned (.agg #[.int .i64 (x / 2 ^ (z - k).toNat), .int .i64 (y / 2 ^ (z - k).toNat), .int .i64 k]) ∧ Ext w w' := by
  go_enter Try.func11, Try.ntmps11
  go_wp2
  go_loopg [] ((z - k).toNat) (fun n wr => ∃ j : Nat, n + j = (z - k).toNat ∧ wr = (w.alloc (Obj.cells #[.int .i64 (x / 2 ^ j), .int .i64 (y / 2 ^ j), .int .i64 (z - j)] 28)).alloc (Obj.cells #[.int .i64 0, .int .i64 0, .int .i64 0] 28))
  case atStart => exact ⟨0, by simp, by simp⟩
  case round =>
    obtain ⟨j, hj, rfl⟩ := hrel
    have hx : 0 ≤ x / 2 ^ j := Int.ediv_nonneg hx0 (Int.le_of_lt (pow_bd j (by omega)).1)
    have hx' : x / 2 ^ j ≤ x := Int.ediv_le_self _ hx0
    have hy : 0 ≤ y / 2 ^ j := Int.ediv_nonneg hy0 (Int.le_of_lt (pow_bd j (by omega)).1)
    have hy' : y / 2 ^ j ≤ y := Int.ediv_le_self _ hy0
    by_cases hlt : k < z - j
    · go_wp2
      go_roundg (gk - 1)
      case measure => omega
      case rel => exact ⟨j + 1, by omega, by rw [show z - ((j + 1 : Nat) : Int) = z - j - 1 by omega, Int.pow_succ, Int.ediv_ediv_of_nonneg (Int.le_of_lt (pow_bd j (by omega)).1), Int.ediv_ediv_of_nonneg (Int.le_of_lt (pow_bd j (by omega)).1)]⟩
    · have hk' : z - j = k := by omega
      have hj' : j = (z - k).toNat := by omega
      subst hj'
      have Hk := Lib.hid hk'; clear hk'
      go_wp2
      exact bodyPost_ret (v := .agg #[.int .i64 (x / 2 ^ (z - k).toNat), .int .i64 (y / 2 ^ (z - k).toNat), .int .i64 (z - ((z - k).toNat : Int))]) (by simp [results, Try.results11, go_sem]) rfl ⟨by rw [Hk.out], ((Ext.refl _).alloc _).alloc _⟩

end Go.Proofs.Ytdkknlnlfaoapaa
