/- The quarters of a tile: what is returned, in the package and in the reference; and the two statements on them. No condition but the arguments' kinds. -/
import Derived.Test.YtdkknlnlfaoapaaOwns
import Derived.Test.YtdkknlnlfaoapaaTileC
namespace Go.Proofs.Ytdkknlnlfaoapaa
open Go.ChangeShapes Go.WideShapes Go.ChangeAt Go.RowKit

/-- The quarters of a tile, in the package's order; in the reference's. -/
def kids (x y z : Int) : List T3 := [(x * 2, y * 2, z + 1), (x * 2 + 1, y * 2, z + 1), (x * 2 + 1, y * 2 + 1, z + 1), (x * 2, y * 2 + 1, z + 1)]
def quarts (x y z : Int) : List T3 := [(2 * x, 2 * y, z + 1), (2 * x + 1, 2 * y, z + 1), (2 * x, 2 * y + 1, z + 1), (2 * x + 1, 2 * y + 1, z + 1)]

theorem mkids_own (x y z : Int) (w : World) (hz0 : 0 ≤ z) (hz1 : z ≤ 31) (hx0 : 0 ≤ x) (hx1 : x ≤ 1073741824) (hy0 : 0 ≤ y) (hy1 : y ≤ 1073741824) :
    Calls Try.prog 31 #[.agg #[.int .u32 x, .int .u32 y, .int .u32 z]] w fun e w' => ∃ v, e = .returned v ∧ Owns w' w.heap.size 45 .u32 v (kids x y z) ∧ Ext w w' := by
  refine (mchildren_any x y z w hz0 hz1 hx0 hx1 hy0 hy1).mono ?_
  rintro e w' ⟨rfl, rfl⟩
  have h := Owns.lit (w.alloc (.cells #[.int .u32 x, .int .u32 y, .int .u32 z] 45)) 45 .u32 (kids x y z) w.heap.size (by simp) (by simp [kids, maxLen])
  refine ⟨_, rfl, ?_, ((Ext.refl _).alloc _).alloc _⟩
  simpa [kids, cells3] using h

set_option maxHeartbeats 800000 in
theorem quarts_any (x y z : Int) (w : World) (hz0 : 0 ≤ z) (hz1 : z ≤ 31) (hx0 : 0 ≤ x) (hx1 : x ≤ 1073741824) (hy0 : 0 ≤ y) (hy1 : y ≤ 1073741824) :
    Calls Try.prog 10 #[.agg #[.int .i64 x, .int .i64 y, .int .i64 z]] w fun e w' => ∃ v, e = .returned (.slice (some ⟨v, 0, none⟩) 4 4) ∧ Reads w' (.slice (some ⟨v, 0, none⟩) 4 4) (quarts x y z) ∧ Ext w w' := by
  have r1 : IntKind.i64.wrap (2 * x) = 2 * x := IntWalk.i64_in _ (by omega)
  have r2 : IntKind.i64.wrap (2 * y) = 2 * y := IntWalk.i64_in _ (by omega)
  have r3 : IntKind.i64.wrap (z + 1) = z + 1 := IntWalk.i64_in _ (by omega)
  go_enter Try.func10, Try.ntmps10
  go_wp2
  refine region_ext (by kernel_rfl) (by kernel_rfl) (fun hc => ?_)
  repeat (go_big_quiet_step (fail))
  refine wpQuiet_nil ?_
  rintro w3 ⟨⟨_, hw3⟩, rfl⟩
  go_wp2
  go_ret
  have h := Owns.lit w3 28 .i64 (quarts x y z) w.heap.size (Nat.le_trans ((Ext.refl w).alloc _).size hw3.size) (by simp [quarts, maxLen])
  refine ⟨w3.heap.size, rfl, ?_, (((Ext.refl _).alloc _).trans hw3).alloc _⟩
  have := h.reads
  simpa [quarts, cells3] using this

theorem kids_quarts (x y z : Int) : (kids x y z).Nodup ∧ (∀ t ∈ kids x y z, t ∈ quarts x y z) ∧ (∀ t ∈ quarts x y z, t ∈ kids x y z) := by
  refine ⟨?_, ?_, ?_⟩
  · simp [kids]; omega
  · intro t ht
    simp only [kids, List.mem_cons, List.not_mem_nil, or_false] at ht
    simp only [quarts, List.mem_cons, List.not_mem_nil, or_false]
    rcases ht with rfl | rfl | rfl | rfl <;> simp [Int.mul_comm]
  · intro t ht
    simp only [quarts, List.mem_cons, List.not_mem_nil, or_false] at ht
    simp only [kids, List.mem_cons, List.not_mem_nil, or_false]
    rcases ht with rfl | rfl | rfl | rfl <;> simp [Int.mul_comm]

end Go.Proofs.Ytdkknlnlfaoapaa
