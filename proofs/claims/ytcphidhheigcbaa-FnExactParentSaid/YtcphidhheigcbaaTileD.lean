/- The statements on single tiles: the Go text of each answers true. No condition but the arguments' kinds. -/
import Derived.Test.YtcphidhheigcbaaTileC
namespace Go.Proofs.Ytcphidhheigcbaa
open Go.ChangeShapes Go.WideShapes Go.ChangeAt Go.RowKit

set_option maxHeartbeats 800000 in
theorem parent_law (x y z : Int) (w : World) (hx0 : 0 ≤ x) (hx1 : x ≤ 4294967295) (hy0 : 0 ≤ y) (hy1 : y ≤ 4294967295) (hz0 : 0 ≤ z) (hz1 : z ≤ 255) :
    Calls Try.prog 5 #[.int .u32 x, .int .u32 y, .int .u8 z] w fun e w' => e = .returned (.bool true) ∧ Ext w w' := by
  have HS := Lib.hid (fun W => stile_any x y z W hx0 hx1 hy0 hy1 hz0 hz1)
  obtain ⟨hp0, hp1⟩ := pow_bd (z % 31).toNat (by omega)
  generalize (2 : Int) ^ (z % 31).toNat = m at *
  have hX0 : 0 ≤ x % m := Int.emod_nonneg _ (by omega)
  have hX1 : x % m < m := Int.emod_lt_of_pos _ hp0
  have hY0 : 0 ≤ y % m := Int.emod_nonneg _ (by omega)
  have hY1 : y % m < m := Int.emod_lt_of_pos _ hp0
  generalize x % m = X at *
  generalize y % m = Y at *
  by_cases hz : z % 31 = 0
  · have hb : (z % 31 == 0) = true := by simp [hz]
    clear hz
    go_enter Try.func5, Try.ntmps5
    go_wp2_with (go_at_call 14; refine (HS.out _).mono ?_; rintro e w1 ⟨rfl, hb⟩)
    refine region_later (by kernel_rfl) (by kernel_rfl) ?_
    have hc := Later.cell (W := (w1.alloc (.cells #[.int .i64 X, .int .i64 Y, .int .i64 (z % 31)] 25)))
    repeat (go_big_quiet_step (fail))
    refine wpQuiet_nil ?_
    rintro _ ⟨⟨w2, hw2⟩, rfl⟩
    go_wp2
    go_ret
    exact ⟨rfl, (hb.alloc _).trans hw2⟩
  · have hb : (z % 31 == 0) = false := by simp [hz]
    have HP := Lib.hid (fun W => iparent_any X Y (z % 31) W (by omega) (by omega) (by omega) (by omega) (by omega) (by omega))
    have ho := fun W => over_any X Y (z % 31) (z % 31 - 1) W (by omega) (by omega) (by omega) (by omega) (by omega) (by omega) (by omega)
    rw [show (z % 31 - (z % 31 - 1)).toNat = 1 by omega, Int.pow_one] at ho
    have HO := Lib.hid ho; clear ho
    have he := eq_tile
    go_enter Try.func5, Try.ntmps5
    go_wp2_with (go_at_call 14; refine (HS.out _).mono ?_; rintro e w1 ⟨rfl, hb⟩)
    refine region_later (by kernel_rfl) (by kernel_rfl) ?_
    have hc := Later.cell (W := (w1.alloc (.cells #[.int .i64 X, .int .i64 Y, .int .i64 (z % 31)] 25)))
    repeat (go_big_quiet_step (first | (go_at_call 16; exact Calls.later (HP.out _)) | (go_at_call 17; exact Calls.later (HO.out _))))
    refine wpQuiet_nil ?_
    rintro _ ⟨⟨w2, hw2⟩, rfl⟩
    go_wp2
    go_ret
    exact ⟨by simp, (hb.alloc _).trans hw2⟩

set_option maxHeartbeats 800000 in
theorem key_law (x y z : Int) (w : World) (hx0 : 0 ≤ x) (hx1 : x ≤ 4294967295) (hy0 : 0 ≤ y) (hy1 : y ≤ 4294967295) (hz0 : 0 ≤ z) (hz1 : z ≤ 255) :
    Calls Try.prog 4 #[.int .u32 x, .int .u32 y, .int .u8 z] w fun e w' => e = .returned (.bool true) ∧ Ext w w' := by
  obtain ⟨X, rfl⟩ := Int.eq_ofNat_of_zero_le hx0
  obtain ⟨Y, rfl⟩ := Int.eq_ofNat_of_zero_le hy0
  have hcx : ((X : Int) % 2 ^ (z % 31).toNat) = ((X % 2 ^ (z % 31).toNat : Nat) : Int) := by simp
  have hcy : ((Y : Int) % 2 ^ (z % 31).toNat) = ((Y % 2 ^ (z % 31).toNat : Nat) : Int) := by simp
  have hs := fun W => stile_any X Y z W hx0 hx1 hy0 hy1 hz0 hz1
  rw [hcx, hcy] at hs
  clear hcx hcy
  have hX : X % 2 ^ (z % 31).toNat < 2 ^ (z % 31).toNat := Nat.mod_lt _ (Nat.pow_pos (by omega))
  have hY : Y % 2 ^ (z % 31).toNat < 2 ^ (z % 31).toNat := Nat.mod_lt _ (Nat.pow_pos (by omega))
  have hp : 2 ^ (z % 31).toNat ≤ 2 ^ 30 := Nat.pow_le_pow_right (by omega) (by omega)
  generalize X % 2 ^ (z % 31).toNat = A at *
  generalize Y % 2 ^ (z % 31).toNat = B at *
  have hq := fun W => iquadkey_any A B (z % 31) W (by omega) (by omega) (by omega) (by omega)
  rw [key_want] at hq
  have HS := Lib.hid hs; have HQ := Lib.hid hq
  have hA : (A : Int) ≤ 4294967295 := by omega
  have hB : (B : Int) ≤ 4294967295 := by omega
  clear hs hq hp hX hY
  go_enter Try.func4, Try.ntmps4
  go_wp2_with (go_at_call 14; refine (HS.out _).mono ?_; rintro e w1 ⟨rfl, hb⟩)
  obtain ⟨W0, hW0⟩ : ∃ W0, W0 = w1.alloc (.cells #[.int .i64 A, .int .i64 B, .int .i64 (z % 31)] 25) := ⟨_, rfl⟩
  rw [← hW0]
  go_loopg [8, 9] ((z % 31).toNat) (fun n want i wr => ∃ j : Nat, n + j = (z % 31).toNat ∧ i = .int .i64 j ∧ want = .int .u64 (wantF A B j : Nat) ∧ Ext W0 wr)
  case atStart => exact ⟨0, by omega, rfl, rfl, Ext.refl _⟩
  case round =>
    obtain ⟨j, hj, rfl, rfl, hwr⟩ := hrel
    obtain ⟨hc, hf⟩ := bcell hwr
    have hcl := fun (e : Later wr) => (bcell (hwr.trans e.h)).1
    have hw0 := hb.alloc (.cells #[.int .i64 A, .int .i64 B, .int .i64 (z % 31)] 25)
    rw [← hW0] at hw0
    rw [hW0] at hc hcl
    clear hW0
    by_cases hlt : (j : Int) < z % 31
    · have H := Lib.hid (want_round A B j (by omega) (by omega) (by omega))
      go_wp2
      refine region_later (by kernel_rfl) (by kernel_rfl) ?_
      repeat (go_big_quiet_step (fail))
      refine wpQuiet_nil ?_
      rintro _ ⟨⟨w2, hw2⟩, rfl⟩
      go_wp2
      go_roundg (gk - 1)
      case measure => omega
      case rel => exact ⟨j + 1, by omega, by go_num, by rw [H.out], hwr.trans hw2⟩
    · have hj' : j = (z % 31).toNat := by omega
      subst hj'
      go_wp2_with (go_at_call 15; refine (HQ.out _).mono ?_; rintro e w2 ⟨rfl, hb2⟩)
      go_ret
      exact ⟨by simp, (hw0.trans hwr).trans hb2⟩

end Go.Proofs.Ytcphidhheigcbaa
