/- spec.Box. Conditions: the numbers' kinds. -/
import Derived.Test.YtmmmknmncdlopaaDoorSpecA
namespace Go.Proofs.YtmmmknmncdlopaaDoor
open Go.ChangeShapes Go.WideShapes Go.ChangeAt Go.RowKit
open Go.Proofs.YtmmmknmncdlopaaDoor.F

/-- The corners of a box. -/
def boxLo (a b c d : Int) : T3 := (min a c, min b d, 0)
def boxHi (a b c d : Int) : T3 := (max a c, max b d, 0)
theorem box_ret {w : World} {a b c d p q r s : Int} {ts : Array Value} (h8 : ts[8]? = some (pt w.heap.size)) (h9 : ts[9]? = some (pt (w.heap.size + 1))) (e : p = min a c ∧ q = min b d ∧ r = max a c ∧ s = max b d) :
    bodyPost Tryd.prog Tryd.f11 (fun e w' => e = .returned (.tuple #[itc (min a c, min b d, 0), itc (max a c, max b d, 0)]) ∧ Ext w w') Exit.ret { tmps := ts, defers := [] }
      ((w.alloc (.cells #[.int .i64 p, .int .i64 q, .int .i64 0] 25)).alloc (.cells #[.int .i64 r, .int .i64 s, .int .i64 0] 25)) := by
  obtain ⟨rfl, rfl, rfl, rfl⟩ := e
  exact bodyPost_ret (v := .tuple #[itc (min a c, min b d, 0), itc (max a c, max b d, 0)]) (by simp [results, Tryd.results11, go_sem, h8, h9]) rfl ⟨rfl, ((Ext.refl w).alloc _).alloc _⟩
set_option maxHeartbeats 1600000 in
theorem box_any (a b c d : Int) (w : World) (ha : -32768 ≤ a ∧ a ≤ 32767) (hb : -32768 ≤ b ∧ b ≤ 32767) (hc : -32768 ≤ c ∧ c ≤ 32767) (hd : -32768 ≤ d ∧ d ≤ 32767) :
    Calls Tryd.prog 11 #[.int .i16 a, .int .i16 b, .int .i16 c, .int .i16 d] w fun e w' => e = .returned (.tuple #[itc (boxLo a b c d), itc (boxHi a b c d)]) ∧ Ext w w' := by
  unfold boxLo boxHi
  go_enter Tryd.func11, Tryd.ntmps11
  go_wp2
  all_goals exact box_ret rfl rfl (by omega)

end Go.Proofs.YtmmmknmncdlopaaDoor
