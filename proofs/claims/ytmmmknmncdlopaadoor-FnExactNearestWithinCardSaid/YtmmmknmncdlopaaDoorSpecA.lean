/- spec.Box, In, less: what each returns. Conditions: the numbers' kinds. -/
import Derived.Test.YtmmmknmncdlopaaDoorItemsA
namespace Go.Proofs.YtmmmknmncdlopaaDoor
open Go.ChangeShapes Go.WideShapes Go.ChangeAt Go.RowKit
open Go.Proofs.YtmmmknmncdlopaaDoor.F

theorem in_any (lo hi x : T3) (w : World) :
    Calls Tryd.prog 34 #[.agg #[.int .i64 lo.1, .int .i64 lo.2.1, .int .i64 lo.2.2], .agg #[.int .i64 hi.1, .int .i64 hi.2.1, .int .i64 hi.2.2], .agg #[.int .i64 x.1, .int .i64 x.2.1, .int .i64 x.2.2]] w fun e w' => e = .returned (.bool (inb lo hi x)) ∧ Ext w w' := by
  obtain ⟨a, b, c⟩ := lo
  obtain ⟨d, e, f⟩ := hi
  obtain ⟨x, y, z⟩ := x
  have HO := Lib.hid (show inb (a, b, c) (d, e, f) (x, y, z) = (decide (a ≤ x) && (decide (x ≤ d) && (decide (b ≤ y) && decide (y ≤ e)))) from rfl)
  dsimp only
  by_cases h1 : a ≤ x
  · by_cases h2 : x ≤ d
    · by_cases h3 : b ≤ y
      · by_cases h4 : y ≤ e
        · have HR := Lib.hid (show inb (a, b, c) (d, e, f) (x, y, z) = true from by rw [HO.out]; simp [h1, h2, h3, h4])
          go_enter Tryd.func34, Tryd.ntmps34
          go_wp2
          go_ret
          exact ⟨by rw [HR.out]; rfl, (((Ext.refl _).alloc _).alloc _).alloc _⟩
        · have HR := Lib.hid (show inb (a, b, c) (d, e, f) (x, y, z) = false from by rw [HO.out]; simp [h4])
          go_enter Tryd.func34, Tryd.ntmps34
          go_wp2
          go_ret
          exact ⟨by rw [HR.out]; rfl, (((Ext.refl _).alloc _).alloc _).alloc _⟩
      · have HR := Lib.hid (show inb (a, b, c) (d, e, f) (x, y, z) = false from by rw [HO.out]; simp [h3])
        go_enter Tryd.func34, Tryd.ntmps34
        go_wp2
        go_ret
        exact ⟨by rw [HR.out]; rfl, (((Ext.refl _).alloc _).alloc _).alloc _⟩
    · have HR := Lib.hid (show inb (a, b, c) (d, e, f) (x, y, z) = false from by rw [HO.out]; simp [h2])
      go_enter Tryd.func34, Tryd.ntmps34
      go_wp2
      go_ret
      exact ⟨by rw [HR.out]; rfl, (((Ext.refl _).alloc _).alloc _).alloc _⟩
  · have HR := Lib.hid (show inb (a, b, c) (d, e, f) (x, y, z) = false from by rw [HO.out]; simp [h1])
    go_enter Tryd.func34, Tryd.ntmps34
    go_wp2
    go_ret
    exact ⟨by rw [HR.out]; rfl, (((Ext.refl _).alloc _).alloc _).alloc _⟩

/-- Whether an item is ahead of another one. -/
def lt3 (a b : T3) : Bool := if a.1 ≠ b.1 then decide (a.1 < b.1) else if a.2.1 ≠ b.2.1 then decide (a.2.1 < b.2.1) else decide (a.2.2 < b.2.2)
theorem less_any (p q : T3) (w : World) :
    Calls Tryd.prog 41 #[.agg #[.int .i64 p.1, .int .i64 p.2.1, .int .i64 p.2.2], .agg #[.int .i64 q.1, .int .i64 q.2.1, .int .i64 q.2.2]] w fun e w' => e = .returned (.bool (lt3 p q)) ∧ Ext w w' := by
  obtain ⟨a, b, c⟩ := p
  obtain ⟨d, e, f⟩ := q
  have HO := Lib.hid (show lt3 (a, b, c) (d, e, f) = (if a ≠ d then decide (a < d) else if b ≠ e then decide (b < e) else decide (c < f)) from rfl)
  dsimp only
  by_cases h1 : a = d
  · by_cases h2 : b = e
    · subst h1; subst h2
      go_enter Tryd.func41, Tryd.ntmps41
      go_wp2
      go_ret
      exact ⟨by rw [HO.out]; simp, ((Ext.refl _).alloc _).alloc _⟩
    · subst h1
      go_enter Tryd.func41, Tryd.ntmps41
      go_wp2
      go_ret
      exact ⟨by rw [HO.out]; simp [h2], ((Ext.refl _).alloc _).alloc _⟩
  · go_enter Tryd.func41, Tryd.ntmps41
    go_wp2
    go_ret
    exact ⟨by rw [HO.out]; simp [h1], ((Ext.refl _).alloc _).alloc _⟩

end Go.Proofs.YtmmmknmncdlopaaDoor
