/- The quarters of a tile: what is returned, in the package and in the reference; and the two statements on them. No condition but the arguments' kinds. -/
import Derived.Test.YtcphidhheigcbaaOwns
import Derived.Test.YtcphidhheigcbaaTileC
namespace Go.Proofs.Ytcphidhheigcbaa
open Go.ChangeShapes Go.WideShapes Go.ChangeAt Go.RowKit

/-- The quarters of a tile, in the package's order; in the reference's. -/
def kids (x y z : Int) : List T3 := [(x * 2, y * 2, z + 1), (x * 2 + 1, y * 2, z + 1), (x * 2 + 1, y * 2 + 1, z + 1), (x * 2, y * 2 + 1, z + 1)]
def quarts (x y z : Int) : List T3 := [(2 * x, 2 * y, z + 1), (2 * x + 1, 2 * y, z + 1), (2 * x, 2 * y + 1, z + 1), (2 * x + 1, 2 * y + 1, z + 1)]

theorem mkids_own (x y z : Int) (w : World) (hz0 : 0 ≤ z) (hz1 : z ≤ 31) (hx0 : 0 ≤ x) (hx1 : x ≤ 1073741824) (hy0 : 0 ≤ y) (hy1 : y ≤ 1073741824) :
    Calls Try.prog 33 #[.agg #[.int .u32 x, .int .u32 y, .int .u32 z]] w fun e w' => ∃ v, e = .returned v ∧ Owns w' w.heap.size 48 .u32 v (kids x y z) ∧ Ext w w' := by
  refine (mchildren_any x y z w hz0 hz1 hx0 hx1 hy0 hy1).mono ?_
  rintro e w' ⟨rfl, rfl⟩
  have h := Owns.lit (w.alloc (.cells #[.int .u32 x, .int .u32 y, .int .u32 z] 48)) 48 .u32 (kids x y z) w.heap.size (by simp) (by simp [kids, maxLen])
  refine ⟨_, rfl, ?_, ((Ext.refl _).alloc _).alloc _⟩
  simpa [kids, cells3] using h

set_option maxHeartbeats 800000 in
theorem ikids_any (x y z : Int) (w : World) (hz0 : 0 ≤ z) (hz1 : z ≤ 31) (hx0 : 0 ≤ x) (hx1 : x ≤ 1073741824) (hy0 : 0 ≤ y) (hy1 : y ≤ 1073741824) :
    Calls Try.prog 18 #[.agg #[.int .i64 x, .int .i64 y, .int .i64 z]] w fun e w' => ∃ v cap, e = .returned (.slice (some ⟨v, 0, none⟩) 4 cap) ∧ Reads w' (.slice (some ⟨v, 0, none⟩) 4 cap) (kids x y z) ∧ Ext w w' := by
  have HT := Lib.hid (fun W => tile_any x y z W (by omega) (by omega) (by omega) (by omega) (by omega) (by omega))
  have HK := Lib.hid (fun W => mkids_own x y z W hz0 hz1 hx0 hx1 hy0 hy1)
  have HB := Lib.hid (show ∀ t ∈ kids x y z, 0 ≤ t.1 ∧ t.1 ≤ 4294967295 ∧ 0 ≤ t.2.1 ∧ t.2.1 ≤ 4294967295 ∧ 0 ≤ t.2.2 ∧ t.2.2 ≤ 4294967295 by
    intro t ht
    simp only [kids, List.mem_cons, List.not_mem_nil, or_false] at ht
    rcases ht with rfl | rfl | rfl | rfl <;> dsimp only <;> omega)
  have HL := Lib.hid (show (kids x y z).length = 4 from rfl)
  generalize kids x y z = ts at *
  go_enter Try.func18, Try.ntmps18
  go_wp2_with (go_at_call 27; refine (HT.out _).mono ?_; rintro e w1 ⟨rfl, hb⟩)
  refine (HK.out _).mono ?_
  rintro e w2 ⟨v, rfl, ho, hb2⟩
  have HO := Lib.hid ho; clear ho
  go_wp2_with fail
  refine (plains_any v ts _ _ HO.out (by rw [HL.out]; omega) HB.out).mono ?_
  rintro e w3 ⟨v', rfl, ho3, hb3⟩
  obtain ⟨g, cap, rfl, _, _, _⟩ := ho3.form
  have HR := Lib.hid ho3.reads
  rw [HL.out] at *
  clear ho3
  go_wp2
  go_ret
  exact ⟨g, cap, rfl, HR.out, (((Ext.refl _).alloc _).trans hb |>.trans hb2).trans hb3⟩

set_option maxHeartbeats 800000 in
theorem quarts_any (x y z : Int) (w : World) (hz0 : 0 ≤ z) (hz1 : z ≤ 31) (hx0 : 0 ≤ x) (hx1 : x ≤ 1073741824) (hy0 : 0 ≤ y) (hy1 : y ≤ 1073741824) :
    Calls Try.prog 20 #[.agg #[.int .i64 x, .int .i64 y, .int .i64 z]] w fun e w' => ∃ v, e = .returned (.slice (some ⟨v, 0, none⟩) 4 4) ∧ Reads w' (.slice (some ⟨v, 0, none⟩) 4 4) (quarts x y z) ∧ Ext w w' := by
  have r1 : IntKind.i64.wrap (2 * x) = 2 * x := IntWalk.i64_in _ (by omega)
  have r2 : IntKind.i64.wrap (2 * y) = 2 * y := IntWalk.i64_in _ (by omega)
  have r3 : IntKind.i64.wrap (z + 1) = z + 1 := IntWalk.i64_in _ (by omega)
  go_enter Try.func20, Try.ntmps20
  go_wp2
  refine region_ext (by kernel_rfl) (by kernel_rfl) (fun hc => ?_)
  repeat (go_big_quiet_step (fail))
  refine wpQuiet_nil ?_
  rintro w3 ⟨⟨_, hw3⟩, rfl⟩
  go_wp2
  go_ret
  have h := Owns.lit w3 25 .i64 (quarts x y z) w.heap.size (Nat.le_trans ((Ext.refl w).alloc _).size hw3.size) (by simp [quarts, maxLen])
  refine ⟨w3.heap.size, rfl, ?_, (((Ext.refl _).alloc _).trans hw3).alloc _⟩
  have := h.reads
  simpa [quarts, cells3] using this

theorem kids_quarts (x y z : Int) : (kids x y z).Nodup ∧ (∀ t ∈ kids x y z, t ∈ quarts x y z) ∧ (∀ t ∈ quarts x y z, t ∈ kids x y z) := by
  refine ⟨?_, ?_, ?_⟩
  · simp [kids]; omega
  · intro t ht
    simp only [kids, List.mem_cons, List.not_mem_nil, or_false] at ht
    simp only [quarts, List.mem_cons, List.not_mem_nil, or_false]
    rcases ht with rfl | rfl | rfl | rfl <;> simp [Int.mul_comm]
  · intro t ht
    simp only [quarts, List.mem_cons, List.not_mem_nil, or_false] at ht
    simp only [kids, List.mem_cons, List.not_mem_nil, or_false]
    rcases ht with rfl | rfl | rfl | rfl <;> simp [Int.mul_comm]

set_option maxHeartbeats 1000000 in
theorem children_law (x y z : Int) (w : World) (hx0 : 0 ≤ x) (hx1 : x ≤ 4294967295) (hy0 : 0 ≤ y) (hy1 : y ≤ 4294967295) (hz0 : 0 ≤ z) (hz1 : z ≤ 255) :
    Calls Try.prog 6 #[.int .u32 x, .int .u32 y, .int .u8 z] w fun e w' => e = .returned (.bool true) ∧ Ext w w' := by
  have HS := Lib.hid (fun W => stile_any x y z W hx0 hx1 hy0 hy1 hz0 hz1)
  obtain ⟨hp0, hp1⟩ := pow_bd (z % 31).toNat (by omega)
  have hp2 : (2 : Int) ^ (z % 31).toNat ≤ 1073741824 := by
    have h1 : (2 : Int) ^ (z % 31).toNat ≤ 2 ^ 30 := by exact_mod_cast Nat.pow_le_pow_right (by omega) (by omega)
    omega
  have hX0 : 0 ≤ x % 2 ^ (z % 31).toNat := Int.emod_nonneg _ (by omega)
  have hX1 : x % 2 ^ (z % 31).toNat < 2 ^ (z % 31).toNat := Int.emod_lt_of_pos _ hp0
  have hY0 : 0 ≤ y % 2 ^ (z % 31).toNat := Int.emod_nonneg _ (by omega)
  have hY1 : y % 2 ^ (z % 31).toNat < 2 ^ (z % 31).toNat := Int.emod_lt_of_pos _ hp0
  generalize x % 2 ^ (z % 31).toNat = X at *
  generalize y % 2 ^ (z % 31).toNat = Y at *
  have HK := Lib.hid (fun W => ikids_any X Y (z % 31) W (by omega) (by omega) hX0 (by omega) hY0 (by omega))
  have HQ := Lib.hid (fun W => quarts_any X Y (z % 31) W (by omega) (by omega) hX0 (by omega) hY0 (by omega))
  have HE := Lib.hid (kids_quarts X Y (z % 31))
  have HL1 := Lib.hid (show (kids X Y (z % 31)).length = 4 from rfl)
  have HL2 := Lib.hid (show (quarts X Y (z % 31)).length = 4 from rfl)
  generalize kids X Y (z % 31) = ts at *
  generalize quarts X Y (z % 31) = us at *
  clear hp0 hp1 hp2 hX1 hY1
  go_enter Try.func6, Try.ntmps6
  go_wp2_with (go_at_call 14; refine (HS.out _).mono ?_; rintro e w1 ⟨rfl, hb⟩)
  refine (HK.out _).mono ?_
  rintro e w2 ⟨g, cap, rfl, hr, hb2⟩
  obtain ⟨c2, f2, s2⟩ := new3 hb2
  have HR := Lib.hid hr; clear hr
  go_wp2_with fail
  refine (HQ.out _).mono ?_
  rintro e w3 ⟨g', rfl, hr3, hb3⟩
  have HR3 := Lib.hid hr3; clear hr3
  go_wp2_with fail
  have := same_some g 0 cap g' 0 4 ts us w3 (by rw [HL1.out]; exact HR.out.ext hb3) (by rw [HL2.out]; exact HR3.out) HE.out.1 HE.out.2.1 HE.out.2.2
  rw [HL1.out, HL2.out] at this
  refine this.mono ?_
  rintro e w4 ⟨rfl, hb4⟩
  clear this
  go_wp2
  go_ret
  exact ⟨rfl, (((hb.alloc _).trans hb2).trans hb3).trans hb4⟩

end Go.Proofs.Ytcphidhheigcbaa
