/- The quarters of the tile of which a tile is one; the statement on them. No condition but the arguments' kinds. -/
import Derived.Test.YtcphidhheigcbaaKids
namespace Go.Proofs.Ytcphidhheigcbaa
open Go.ChangeShapes Go.WideShapes Go.ChangeAt Go.RowKit

set_option maxHeartbeats 800000 in
theorem msibs_own (x y z : Int) (w : World) (hz0 : 0 < z) (hz1 : z ≤ 31) (hx0 : 0 ≤ x) (hx1 : x ≤ 1073741824) (hy0 : 0 ≤ y) (hy1 : y ≤ 1073741824) :
    Calls Try.prog 37 #[.agg #[.int .u32 x, .int .u32 y, .int .u32 z]] w fun e w' => ∃ v, e = .returned v ∧ Owns w' w.heap.size 48 .u32 v (kids (x / 2) (y / 2) (z - 1)) ∧ Ext w w' := by
  have HP := Lib.hid (fun W => mparent_any x y z W hz0 (by omega))
  have HK := Lib.hid (fun W => mkids_own (x / 2) (y / 2) (z - 1) W (by omega) (by omega) (by omega) (by omega) (by omega) (by omega))
  generalize kids (x / 2) (y / 2) (z - 1) = ts at *
  go_enter Try.func37, Try.ntmps37
  go_wp2_with (go_at_call 31; refine (HP.out _).mono ?_; rintro e w1 ⟨rfl, hb⟩)
  refine (HK.out _).mono ?_
  rintro e w2 ⟨v, rfl, ho, hb2⟩
  have HO := Lib.hid ho; clear ho
  go_wp2
  go_ret
  have hx : Ext w w1 := ((Ext.refl _).alloc _).trans hb
  exact ⟨v, rfl, ⟨⟨HO.out.1.1, HO.out.1.2.imp id (fun ⟨g, cap, cur, a, b, c⟩ => ⟨g, cap, cur, a, Nat.le_trans hx.size b, c⟩)⟩, HO.out.2⟩, hx.trans hb2⟩

set_option maxHeartbeats 800000 in
theorem isibs_any (x y z : Int) (w : World) (hz0 : 0 < z) (hz1 : z ≤ 31) (hx0 : 0 ≤ x) (hx1 : x ≤ 1073741824) (hy0 : 0 ≤ y) (hy1 : y ≤ 1073741824) :
    Calls Try.prog 23 #[.agg #[.int .i64 x, .int .i64 y, .int .i64 z]] w fun e w' => ∃ v cap, e = .returned (.slice (some ⟨v, 0, none⟩) 4 cap) ∧ Reads w' (.slice (some ⟨v, 0, none⟩) 4 cap) (kids (x / 2) (y / 2) (z - 1)) ∧ Ext w w' := by
  have HT := Lib.hid (fun W => tile_any x y z W (by omega) (by omega) (by omega) (by omega) (by omega) (by omega))
  have HK := Lib.hid (fun W => msibs_own x y z W hz0 hz1 hx0 hx1 hy0 hy1)
  have HB := Lib.hid (show ∀ t ∈ kids (x / 2) (y / 2) (z - 1), 0 ≤ t.1 ∧ t.1 ≤ 4294967295 ∧ 0 ≤ t.2.1 ∧ t.2.1 ≤ 4294967295 ∧ 0 ≤ t.2.2 ∧ t.2.2 ≤ 4294967295 by
    intro t ht
    simp only [kids, List.mem_cons, List.not_mem_nil, or_false] at ht
    rcases ht with rfl | rfl | rfl | rfl <;> dsimp only <;> omega)
  have HL := Lib.hid (show (kids (x / 2) (y / 2) (z - 1)).length = 4 from rfl)
  generalize kids (x / 2) (y / 2) (z - 1) = ts at *
  go_enter Try.func23, Try.ntmps23
  go_wp2_with (go_at_call 27; refine (HT.out _).mono ?_; rintro e w1 ⟨rfl, hb⟩)
  refine (HK.out _).mono ?_
  rintro e w2 ⟨v, rfl, ho, hb2⟩
  have HO := Lib.hid ho; clear ho
  go_wp2_with fail
  refine (plains_any v ts _ _ HO.out (by rw [HL.out]; omega) HB.out).mono ?_
  rintro e w3 ⟨v', rfl, ho3, hb3⟩
  obtain ⟨g, cap, rfl, _, _, _⟩ := ho3.form
  have HR := Lib.hid ho3.reads
  rw [HL.out] at *
  clear ho3
  go_wp2
  go_ret
  exact ⟨g, cap, rfl, HR.out, (((Ext.refl _).alloc _).trans hb |>.trans hb2).trans hb3⟩

set_option maxHeartbeats 1000000 in
theorem siblings_law (x y z : Int) (w : World) (hx0 : 0 ≤ x) (hx1 : x ≤ 4294967295) (hy0 : 0 ≤ y) (hy1 : y ≤ 4294967295) (hz0 : 0 ≤ z) (hz1 : z ≤ 255) :
    Calls Try.prog 9 #[.int .u32 x, .int .u32 y, .int .u8 z] w fun e w' => e = .returned (.bool true) ∧ Ext w w' := by
  have HS := Lib.hid (fun W => stile_any x y z W hx0 hx1 hy0 hy1 hz0 hz1)
  obtain ⟨hp0, hp1⟩ := pow_bd (z % 31).toNat (by omega)
  have hp2 : (2 : Int) ^ (z % 31).toNat ≤ 1073741824 := by
    have h1 : (2 : Int) ^ (z % 31).toNat ≤ 2 ^ 30 := by exact_mod_cast Nat.pow_le_pow_right (by omega) (by omega)
    omega
  have hX0 : 0 ≤ x % 2 ^ (z % 31).toNat := Int.emod_nonneg _ (by omega)
  have hX1 : x % 2 ^ (z % 31).toNat < 2 ^ (z % 31).toNat := Int.emod_lt_of_pos _ hp0
  have hY0 : 0 ≤ y % 2 ^ (z % 31).toNat := Int.emod_nonneg _ (by omega)
  have hY1 : y % 2 ^ (z % 31).toNat < 2 ^ (z % 31).toNat := Int.emod_lt_of_pos _ hp0
  generalize x % 2 ^ (z % 31).toNat = X at *
  generalize y % 2 ^ (z % 31).toNat = Y at *
  by_cases hz : z % 31 = 0
  · have hb : (z % 31 == 0) = true := by simp [hz]
    clear hz
    go_enter Try.func9, Try.ntmps9
    go_wp2_with (go_at_call 14; refine (HS.out _).mono ?_; rintro e w1 ⟨rfl, hb⟩)
    go_ret
    exact ⟨rfl, hb.alloc _⟩
  · have hb : (z % 31 == 0) = false := by simp [hz]
    have HK := Lib.hid (fun W => isibs_any X Y (z % 31) W (by omega) (by omega) hX0 (by omega) hY0 (by omega))
    have ho := fun W => over_any X Y (z % 31) (z % 31 - 1) W (by omega) (by omega) (by omega) (by omega) (by omega) (by omega) (by omega)
    rw [show (z % 31 - (z % 31 - 1)).toNat = 1 by omega, Int.pow_one] at ho
    have HO := Lib.hid ho; clear ho
    have HQ := Lib.hid (fun W => quarts_any (X / 2) (Y / 2) (z % 31 - 1) W (by omega) (by omega) (by omega) (by omega) (by omega) (by omega))
    have HE := Lib.hid (kids_quarts (X / 2) (Y / 2) (z % 31 - 1))
    have HL1 := Lib.hid (show (kids (X / 2) (Y / 2) (z % 31 - 1)).length = 4 from rfl)
    have HL2 := Lib.hid (show (quarts (X / 2) (Y / 2) (z % 31 - 1)).length = 4 from rfl)
    generalize kids (X / 2) (Y / 2) (z % 31 - 1) = ts at *
    generalize quarts (X / 2) (Y / 2) (z % 31 - 1) = us at *
    clear hp0 hp1 hp2 hX1 hY1
    go_enter Try.func9, Try.ntmps9
    go_wp2_with (go_at_call 14; refine (HS.out _).mono ?_; rintro e w1 ⟨rfl, hb⟩)
    refine (HK.out _).mono ?_
    rintro e w2 ⟨g, cap, rfl, hr, hb2⟩
    obtain ⟨c2, f2, s2⟩ := new3 hb2
    have HR := Lib.hid hr; clear hr
    go_wp2_with fail
    refine (HO.out _).mono ?_
    rintro e w5 ⟨rfl, hb5⟩
    go_wp2_with fail
    refine (HQ.out _).mono ?_
    rintro e w3 ⟨g', rfl, hr3, hb3⟩
    have HR3 := Lib.hid hr3; clear hr3
    go_wp2_with fail
    have := same_some g 0 cap g' 0 4 ts us w3 (by rw [HL1.out]; exact HR.out.ext (hb5.trans hb3)) (by rw [HL2.out]; exact HR3.out) HE.out.1 HE.out.2.1 HE.out.2.2
    rw [HL1.out, HL2.out] at this
    refine this.mono ?_
    rintro e w4 ⟨rfl, hb4⟩
    clear this
    go_wp2
    go_ret
    exact ⟨rfl, (((((‹Ext w w1›).alloc _).trans hb2).trans hb5).trans hb3).trans hb4⟩

end Go.Proofs.Ytcphidhheigcbaa
