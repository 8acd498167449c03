/- The quarters of the tile of which a tile is one; the statement on them. No condition but the arguments' kinds. -/
import Derived.Test.YtdkknlnlfaoapaaKids
namespace Go.Proofs.Ytdkknlnlfaoapaa
open Go.ChangeShapes Go.WideShapes Go.ChangeAt Go.RowKit

set_option maxHeartbeats 800000 in
theorem msibs_own (x y z : Int) (w : World) (hz0 : 0 < z) (hz1 : z ≤ 31) (hx0 : 0 ≤ x) (hx1 : x ≤ 1073741824) (hy0 : 0 ≤ y) (hy1 : y ≤ 1073741824) :
    Calls Try.prog 23 #[.agg #[.int .u32 x, .int .u32 y, .int .u32 z]] w fun e w' => ∃ v, e = .returned v ∧ Owns w' w.heap.size 45 .u32 v (kids (x / 2) (y / 2) (z - 1)) ∧ Ext w w' := by
  have HP := Lib.hid (fun W => mparent_any x y z W hz0 (by omega))
  have HK := Lib.hid (fun W => mkids_own (x / 2) (y / 2) (z - 1) W (by omega) (by omega) (by omega) (by omega) (by omega) (by omega))
  generalize kids (x / 2) (y / 2) (z - 1) = ts at *
  go_enter Try.func23, Try.ntmps23
  go_wp2_with (go_at_call 24; refine (HP.out _).mono ?_; rintro e w1 ⟨rfl, hb⟩)
  refine (HK.out _).mono ?_
  rintro e w2 ⟨v, rfl, ho, hb2⟩
  have HO := Lib.hid ho; clear ho
  go_wp2
  go_ret
  have hx : Ext w w1 := ((Ext.refl _).alloc _).trans hb
  exact ⟨v, rfl, ⟨⟨HO.out.1.1, HO.out.1.2.imp id (fun ⟨g, cap, cur, a, b, c⟩ => ⟨g, cap, cur, a, Nat.le_trans hx.size b, c⟩)⟩, HO.out.2⟩, hx.trans hb2⟩

end Go.Proofs.Ytdkknlnlfaoapaa
