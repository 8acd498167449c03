/- The tiles that cover a tile at a zoom: what is returned. Conditions: the numbers' bounds. -/
import Derived.Test.YtcphidhheigcbaaTileC
import Derived.Test.YtcphidhheigcbaaRegionE
namespace Go.Proofs.Ytcphidhheigcbaa
open Go.ChangeShapes Go.WideShapes Go.ChangeAt Go.RowKit

set_option maxHeartbeats 800000 in
theorem mrange_up (x y z k : Int) (w : World) (hk0 : 0 ≤ k) (hk : k < z) (hz1 : z ≤ 31) :
    Calls Try.prog 38 #[.agg #[.int .u32 x, .int .u32 y, .int .u32 z], .int .u32 k] w fun e w' => e = .returned (.tuple #[.agg #[.int .u32 (x / 2 ^ (z - k).toNat), .int .u32 (y / 2 ^ (z - k).toNat), .int .u32 k], .agg #[.int .u32 (x / 2 ^ (z - k).toNat), .int .u32 (y / 2 ^ (z - k).toNat), .int .u32 k]]) ∧ Ext w w' := by
  have HZ := Lib.hid (fun W => zoom_up x y z k W (by omega) (by omega) (by omega) (by omega))
  generalize x / 2 ^ (z - k).toNat = X at *
  generalize y / 2 ^ (z - k).toNat = Y at *
  go_enter Try.func38, Try.ntmps38
  go_wp2_with fail
  refine (HZ.out _).mono ?_
  rintro e w1 ⟨rfl, hb⟩
  have B0 := Ext.blk hb (blk_old (blk_old (blk_new w (.cells #[.int .u32 x, .int .u32 y, .int .u32 z] 48)) (.cells #[.int .u32 0, .int .u32 0, .int .u32 0] 48)) (.cells #[.int .u32 0, .int .u32 0, .int .u32 0] 48))
  have B1 := Ext.blk hb (blk_old (blk_new (w.alloc (.cells #[.int .u32 x, .int .u32 y, .int .u32 z] 48)) (.cells #[.int .u32 0, .int .u32 0, .int .u32 0] 48)) (.cells #[.int .u32 0, .int .u32 0, .int .u32 0] 48))
  have B2 := Ext.blk hb (blk_new ((w.alloc (.cells #[.int .u32 x, .int .u32 y, .int .u32 z] 48)).alloc (.cells #[.int .u32 0, .int .u32 0, .int .u32 0] 48)) (.cells #[.int .u32 0, .int .u32 0, .int .u32 0] 48))
  rw [show (w.alloc (.cells #[.int .u32 x, .int .u32 y, .int .u32 z] 48)).heap.size = w.heap.size + 1 by simp] at B1
  rw [show ((w.alloc (.cells #[.int .u32 x, .int .u32 y, .int .u32 z] 48)).alloc (.cells #[.int .u32 0, .int .u32 0, .int .u32 0] 48)).heap.size = w.heap.size + 1 + 1 by simp] at B2
  obtain ⟨S0, SK, SS⟩ := set3 (.int .u32 X) (.int .u32 Y) (.int .u32 k) B0
  have S1 := (SK (w.heap.size + 1) (by omega)).trans B1
  have S2 := (SK (w.heap.size + 1 + 1) (by omega)).trans B2
  have EX : Ext w (((w1.setCell ⟨w.heap.size, 0, none⟩ (.int .u32 X)).setCell ⟨w.heap.size, 1, none⟩ (.int .u32 Y)).setCell ⟨w.heap.size, 2, none⟩ (.int .u32 k)) :=
    (((((((Ext.refl _).alloc _).alloc _).alloc _).trans hb).setCell (Nat.le_refl _) _).setCell (Nat.le_refl _) _).setCell (Nat.le_refl _) _
  have b0 := cell_of_blk B0
  have f0 := free_of_blk B0
  go_wp2
  generalize ((w1.setCell ⟨w.heap.size, 0, none⟩ (.int .u32 X)).setCell ⟨w.heap.size, 1, none⟩ (.int .u32 Y)).setCell ⟨w.heap.size, 2, none⟩ (.int .u32 k) = W4 at *
  have C0 := cell_of_blk S0
  have C1 := cell_of_blk S1
  have C2 := cell_of_blk S2
  have F1 := free_of_blk S1
  have F2 := free_of_blk S2
  clear SK SS B0 B1 B2 b0 f0
  go_region
  go_wp2
  have T1 := set3 (.int .u32 X) (.int .u32 Y) (.int .u32 k) S1
  have T2 := set3 (.int .u32 X) (.int .u32 Y) (.int .u32 k) ((T1.2.1 (w.heap.size + 1 + 1) (by omega)).trans S2)
  have D1 := cell_of_blk ((T2.2.1 (w.heap.size + 1) (by omega)).trans T1.1)
  have D2 := cell_of_blk T2.1
  clear C0 C1 C2 F1 F2 S0 S1 S2 T1 T2
  exact bodyPost_ret (v := .tuple #[.agg #[.int .u32 X, .int .u32 Y, .int .u32 k], .agg #[.int .u32 X, .int .u32 Y, .int .u32 k]]) (by simp [results, Try.results38, go_sem, D1, D2]) rfl ⟨rfl,
    ((((((EX.setCell (by simp) _).setCell (by simp) _).setCell (by simp) _).setCell (by simp; omega) _).setCell (by simp; omega) _).setCell (by simp; omega) _).drew⟩

theorem shift_facts (x m : Int) (h0 : 0 ≤ x) (hm : 0 < m) (h : (x + 1) * m ≤ 2147483648) : x * m % 4294967296 = x * m ∧ ((x + 1) % 4294967296 * m - 1) % 4294967296 = (x + 1) * m - 1 := by
  have h1 : 0 ≤ x * m := Int.mul_nonneg h0 (by omega)
  have h2 : (x + 1) * m = x * m + m := by rw [Int.add_mul, Int.one_mul]
  have h3 : (x + 1) * 1 ≤ (x + 1) * m := Int.mul_le_mul_of_nonneg_left (by omega) (by omega)
  have h4 : (x + 1) % 4294967296 = x + 1 := by omega
  rw [h4]
  omega

set_option maxHeartbeats 800000 in
theorem mrange_down (x y z k : Int) (w : World) (hz0 : 0 ≤ z) (hk : z ≤ k) (hk1 : k ≤ 30) (hx0 : 0 ≤ x) (hy0 : 0 ≤ y) (hx : (x + 1) * 2 ^ (k - z).toNat ≤ 2147483648) (hy : (y + 1) * 2 ^ (k - z).toNat ≤ 2147483648) :
    Calls Try.prog 38 #[.agg #[.int .u32 x, .int .u32 y, .int .u32 z], .int .u32 k] w fun e w' => e = .returned (.tuple #[.agg #[.int .u32 (x * 2 ^ (k - z).toNat), .int .u32 (y * 2 ^ (k - z).toNat), .int .u32 k], .agg #[.int .u32 ((x + 1) * 2 ^ (k - z).toNat - 1), .int .u32 ((y + 1) * 2 ^ (k - z).toNat - 1), .int .u32 k]]) ∧ Ext w w' := by
  have hp : (0 : Int) < 2 ^ (k - z).toNat := (pow_bd _ (by omega)).1
  have HX := Lib.hid (shift_facts x _ hx0 hp hx)
  have HY := Lib.hid (shift_facts y _ hy0 hp hy)
  go_enter Try.func38, Try.ntmps38
  go_wp2
  go_region
  go_wp2
  rw [HX.out.1, HX.out.2, HY.out.1, HY.out.2]
  exact bodyPost_ret (v := .tuple #[.agg #[.int .u32 (x * 2 ^ (k - z).toNat), .int .u32 (y * 2 ^ (k - z).toNat), .int .u32 k], .agg #[.int .u32 ((x + 1) * 2 ^ (k - z).toNat - 1), .int .u32 ((y + 1) * 2 ^ (k - z).toNat - 1), .int .u32 k]])
    (by simp [results, Try.results38, go_sem]) rfl ⟨rfl, ((((Ext.refl _).alloc _).alloc _).alloc _).drew⟩

end Go.Proofs.Ytcphidhheigcbaa
