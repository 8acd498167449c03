/- FnExactValid answers true at every input. No condition. -/
import Derived.Test.YtcphidhheigcbaaTileA
import Derived.Test.YtcphidhheigcbaaRegion
namespace Go.Proofs.Ytcphidhheigcbaa
open Go.ChangeShapes Go.WideShapes Go.ChangeAt Go.RowKit

set_option maxHeartbeats 800000 in
theorem valid_law (x y z : Int) (w : World) (hx0 : 0 ≤ x) (hx1 : x ≤ 4294967295) (hy0 : 0 ≤ y) (hy1 : y ≤ 4294967295) (hz0 : 0 ≤ z) (hz1 : z ≤ 255) :
    Calls Try.prog 3 #[.int .u32 x, .int .u32 y, .int .u8 z] w fun e w' => e = .returned (.bool true) ∧ Ext w w' := by
  have hv := fun (W : World) => valid_any x y (z % 31) W hx0 hx1 hy0 hy1 (by omega) (by omega)
  obtain ⟨hp0, hp1⟩ := pow_bd (z % 31).toNat (by omega)
  generalize hm : (2 : Int) ^ (z % 31).toNat = m at *
  have hw : IntKind.i64.wrap m = m := IntWalk.i64_in _ (by omega)
  have hbx : IntKind.i64.wrap x = x := IntWalk.i64_in _ (by omega)
  have hby : IntKind.i64.wrap y = y := IntWalk.i64_in _ (by omega)
  have HV := Lib.hid hv; clear hv
  by_cases hx : x < m
  all_goals
    first | (have hd : decide (x < m) = true := by simpa using hx) | (have hd : decide (x < m) = false := by simpa using hx)
    go_enter Try.func3, Try.ntmps3
    go_wp2
    refine region_later (by kernel_rfl) (by kernel_rfl) ?_
    repeat (go_big_quiet_step ((go_at_call 13; exact Calls.later (HV.out _))))
    refine wpQuiet_nil ?_
    rintro _ ⟨⟨w1, hw1⟩, rfl⟩
    go_wp2
    go_ret
    exact ⟨by simp [hd], hw1⟩

end Go.Proofs.Ytcphidhheigcbaa
