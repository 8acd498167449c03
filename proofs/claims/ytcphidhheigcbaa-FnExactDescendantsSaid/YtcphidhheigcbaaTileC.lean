/- The thin package's functions on single tiles: what each returns. Conditions: the numbers' bounds. -/
import Derived.Test.YtcphidhheigcbaaTileA
import Derived.Test.YtcphidhheigcbaaTileB
import Derived.Test.YtcphidhheigcbaaRegion
namespace Go.Proofs.Ytcphidhheigcbaa
open Go.ChangeShapes Go.WideShapes Go.ChangeAt Go.RowKit

set_option maxHeartbeats 400000 in
theorem iquadkey_any (x y : Nat) (z : Int) (w : World) (hz0 : 0 ≤ z) (hz1 : z ≤ 31) (hx1 : x < 4294967296) (hy1 : y < 4294967296) :
    Calls Try.prog 15 #[.agg #[.int .i64 x, .int .i64 y, .int .i64 z]] w fun e w' => e = .returned (.int .u64 (keyF x y z.toNat : Nat)) ∧ Ext w w' := by
  go_enter Try.func15, Try.ntmps15
  go_wp2_with (first | (go_at_call 27; refine (tile_any _ _ _ _ (by omega) (by omega) (by omega) (by omega) (by omega) (by omega)).mono ?_; rintro e w1 ⟨rfl, hb⟩) | (go_at_call 29; refine (quadkey_any _ _ _ _ (by omega) (by omega) (by omega) (by omega)).mono ?_; rintro e w2 ⟨rfl, hb2⟩))
  go_ret
  exact ⟨rfl, (((Ext.refl _).alloc _).trans hb).trans hb2⟩

set_option maxHeartbeats 400000 in
theorem ifromkey_any (q x y : Nat) (z : Int) (w : World) (hz0 : 0 ≤ z) (hz1 : z ≤ 31) (hq : q < 18446744073709551616)
    (hb : ∀ i : Nat, i < z.toNat → q.testBit (2 * i) = x.testBit i ∧ q.testBit (2 * i + 1) = y.testBit i) :
    Calls Try.prog 22 #[.int .u64 q, .int .i64 z] w fun e w' => e = .returned (.agg #[.int .i64 (x % 2 ^ z.toNat : Nat), .int .i64 (y % 2 ^ z.toNat : Nat), .int .i64 z]) ∧ Ext w w' := by
  have hp := pow_bd z.toNat (by omega)
  have hx2 : x % 2 ^ z.toNat < 2 ^ z.toNat := Nat.mod_lt _ (Nat.pow_pos (by omega))
  have hy2 : y % 2 ^ z.toNat < 2 ^ z.toNat := Nat.mod_lt _ (Nat.pow_pos (by omega))
  have hc1 : 2 ^ z.toNat ≤ 2 ^ 31 := Nat.pow_le_pow_right (by omega) (by omega)
  have hf := fun W => fromkey_any q x y z W hz0 hz1 hq hb
  have HF := Lib.hid hf; clear hf hb
  generalize x % 2 ^ z.toNat = X at *
  generalize y % 2 ^ z.toNat = Y at *
  have hX : (X : Int) ≤ 4294967295 := by omega
  have hY : (Y : Int) ≤ 4294967295 := by omega
  clear hx2 hy2 hc1 hp
  go_enter Try.func22, Try.ntmps22
  go_wp2_with (first | (go_at_call 36; refine (HF.out _).mono ?_; rintro e w1 ⟨rfl, hb⟩) | (go_at_call 30; refine (plain_any _ _ _ _ (by omega) (by omega) (by omega) (by omega) (by omega) (by omega)).mono ?_; rintro e w2 ⟨rfl, hb2⟩; obtain ⟨hc, hf⟩ := bcell (hb.trans hb2)))
  exact bodyPost_ret (v := .agg #[.int .i64 X, .int .i64 Y, .int .i64 z]) (by simp [results, Try.results22, go_sem, hc]) rfl ⟨rfl,
    (((((((Ext.refl _).alloc _)).trans hb).trans hb2).setCell (by simp) _).setCell (by simp) _).setCell (by simp) _⟩

set_option maxHeartbeats 400000 in
theorem iparent_any (x y z : Int) (w : World) (hz0 : 0 < z) (hz1 : z ≤ 31) (hx0 : 0 ≤ x) (hx1 : x ≤ 4294967295) (hy0 : 0 ≤ y) (hy1 : y ≤ 4294967295) :
    Calls Try.prog 16 #[.agg #[.int .i64 x, .int .i64 y, .int .i64 z]] w fun e w' => e = .returned (.agg #[.int .i64 (x / 2), .int .i64 (y / 2), .int .i64 (z - 1)]) ∧ Ext w w' := by
  go_enter Try.func16, Try.ntmps16
  go_wp2_with (first | (go_at_call 27; refine (tile_any _ _ _ _ (by omega) (by omega) (by omega) (by omega) (by omega) (by omega)).mono ?_; rintro e w1 ⟨rfl, hb⟩) | (go_at_call 31; refine (mparent_any _ _ _ _ (by omega) (by omega)).mono ?_; rintro e w2 ⟨rfl, hb2⟩) | (go_at_call 30; refine (plain_any _ _ _ _ (by omega) (by omega) (by omega) (by omega) (by omega) (by omega)).mono ?_; rintro e w3 ⟨rfl, hb3⟩; obtain ⟨hc, hf⟩ := bcell ((hb.trans hb2).trans hb3)))
  exact bodyPost_ret (v := .agg #[.int .i64 (x / 2), .int .i64 (y / 2), .int .i64 (z - 1)]) (by simp [results, Try.results16, go_sem, hc]) rfl ⟨rfl,
    ((((((((Ext.refl _).alloc _).alloc _).trans hb).trans hb2).trans hb3).setCell (by simp) _).setCell (by simp) _).setCell (by simp) _⟩

/-- Whether a tile of the package contains another one. -/
def contB (x y z v u k : Int) : Bool := decide (z ≤ k) && (x == v / 2 ^ (k - z).toNat && y == u / 2 ^ (k - z).toNat)

set_option maxHeartbeats 400000 in
theorem mcontains_any (x y z v u k : Int) (w : World) (hz0 : 0 ≤ z) (hk0 : 0 ≤ k) (hk1 : k ≤ 31) :
    Calls Try.prog 35 #[.agg #[.int .u32 x, .int .u32 y, .int .u32 z], .agg #[.int .u32 v, .int .u32 u, .int .u32 k]] w fun e w' => e = .returned (.bool (contB x y z v u k)) ∧ Ext w w' := by
  by_cases hlt : k < z
  · have hr : contB x y z v u k = false := by simp [contB]; omega
    rw [hr]; clear hr
    go_enter Try.func35, Try.ntmps35
    go_wp2
    go_ret
    exact ⟨rfl, ((Ext.refl _).alloc _).alloc _⟩
  · have hz := fun W => zoom_up v u k z W (by omega) (by omega) (by omega) (by omega)
    have hr : contB x y z v u k = (x == v / 2 ^ (k - z).toNat && (y == u / 2 ^ (k - z).toNat && true)) := by simp [contB]; omega
    rw [hr]; clear hr
    have HZ := Lib.hid hz
    clear hz
    generalize v / 2 ^ (k - z).toNat = V at *
    generalize u / 2 ^ (k - z).toNat = U at *
    have he := eq_mtile
    go_enter Try.func35, Try.ntmps35
    go_wp2
    refine region_later (by kernel_rfl) (by kernel_rfl) ?_
    have hc := Later.cell (W := ((w.alloc (.cells #[.int .u32 x, .int .u32 y, .int .u32 z] 48)).alloc (.cells #[.int .u32 v, .int .u32 u, .int .u32 k] 48)))
    repeat (go_big_quiet_step ((go_at_call 42; exact Calls.later (HZ.out _))))
    refine wpQuiet_nil ?_
    rintro _ ⟨⟨w1, hw1⟩, rfl⟩
    go_wp2
    go_ret
    exact ⟨by simp, (((Ext.refl _).alloc _).alloc _).trans hw1⟩

set_option maxHeartbeats 400000 in
theorem icontains_any (x y z v u k : Int) (w : World) (hz0 : 0 ≤ z) (hz1 : z ≤ 31) (hk0 : 0 ≤ k) (hk1 : k ≤ 31) (hx0 : 0 ≤ x) (hx1 : x ≤ 4294967295) (hy0 : 0 ≤ y) (hy1 : y ≤ 4294967295) (hv0 : 0 ≤ v) (hv1 : v ≤ 4294967295) (hu0 : 0 ≤ u) (hu1 : u ≤ 4294967295) :
    Calls Try.prog 21 #[.agg #[.int .i64 x, .int .i64 y, .int .i64 z], .agg #[.int .i64 v, .int .i64 u, .int .i64 k]] w fun e w' => e = .returned (.bool (contB x y z v u k)) ∧ Ext w w' := by
  have H1 := Lib.hid (fun W => tile_any x y z W hx0 hx1 hy0 hy1 (by omega) (by omega))
  have H2 := Lib.hid (fun W => tile_any v u k W hv0 hv1 hu0 hu1 (by omega) (by omega))
  have H3 := Lib.hid (fun W => mcontains_any x y z v u k W hz0 hk0 hk1)
  go_enter Try.func21, Try.ntmps21
  go_wp2
  refine region_later (by kernel_rfl) (by kernel_rfl) ?_
  have hc := Later.cell (W := ((w.alloc (.cells #[.int .i64 x, .int .i64 y, .int .i64 z] 25)).alloc (.cells #[.int .i64 v, .int .i64 u, .int .i64 k] 25)))
  repeat (go_big_quiet_step (first | (go_at_call 27; with_reducible exact Calls.later (H1.out _)) | (go_at_call 27; exact Calls.later (H2.out _)) | (go_at_call 35; exact Calls.later (H3.out _))))
  refine wpQuiet_nil ?_
  rintro _ ⟨⟨w1, hw1⟩, rfl⟩
  go_wp2
  go_ret
  exact ⟨rfl, (((Ext.refl _).alloc _).alloc _).trans hw1⟩

set_option maxHeartbeats 800000 in
theorem keyback_law (x y z : Int) (w : World) (hx0 : 0 ≤ x) (hx1 : x ≤ 4294967295) (hy0 : 0 ≤ y) (hy1 : y ≤ 4294967295) (hz0 : 0 ≤ z) (hz1 : z ≤ 255) :
    Calls Try.prog 8 #[.int .u32 x, .int .u32 y, .int .u8 z] w fun e w' => e = .returned (.bool true) ∧ Ext w w' := by
  obtain ⟨X, rfl⟩ := Int.eq_ofNat_of_zero_le hx0
  obtain ⟨Y, rfl⟩ := Int.eq_ofNat_of_zero_le hy0
  have hcx : ((X : Int) % 2 ^ (z % 31).toNat) = ((X % 2 ^ (z % 31).toNat : Nat) : Int) := by simp
  have hcy : ((Y : Int) % 2 ^ (z % 31).toNat) = ((Y % 2 ^ (z % 31).toNat : Nat) : Int) := by simp
  have hs := fun W => stile_any X Y z W hx0 hx1 hy0 hy1 hz0 hz1
  rw [hcx, hcy] at hs
  clear hcx hcy
  have hX : X % 2 ^ (z % 31).toNat < 2 ^ (z % 31).toNat := Nat.mod_lt _ (Nat.pow_pos (by omega))
  have hY : Y % 2 ^ (z % 31).toNat < 2 ^ (z % 31).toNat := Nat.mod_lt _ (Nat.pow_pos (by omega))
  have hp : 2 ^ (z % 31).toNat ≤ 2 ^ 30 := Nat.pow_le_pow_right (by omega) (by omega)
  generalize X % 2 ^ (z % 31).toNat = A at *
  generalize Y % 2 ^ (z % 31).toNat = B at *
  have hq := fun W => iquadkey_any A B (z % 31) W (by omega) (by omega) (by omega) (by omega)
  have hk : keyF A B (z % 31).toNat < 18446744073709551616 := by rw [key_want]; exact Nat.lt_trans (want_lt _ _ _) (pow64 _ (by omega))
  have hb := fun W => ifromkey_any (keyF A B (z % 31).toNat) A B (z % 31) W (by omega) (by omega) hk (fun i hi => by
    rw [key_want]; have := want_bit A B (z % 31).toNat i; simpa [hi] using this)
  rw [Nat.mod_eq_of_lt hX, Nat.mod_eq_of_lt hY] at hb
  have HS := Lib.hid hs; have HQ := Lib.hid hq; have HB := Lib.hid hb
  clear hs hq hb hp hX hY hk
  generalize keyF A B (z % 31).toNat = q at *
  have he := eq_tile
  go_enter Try.func8, Try.ntmps8
  go_wp2_with (go_at_call 14; refine (HS.out _).mono ?_; rintro e w1 ⟨rfl, hb⟩)
  refine region_later (by kernel_rfl) (by kernel_rfl) ?_
  have hc := Later.cell (W := (w1.alloc (.cells #[.int .i64 A, .int .i64 B, .int .i64 (z % 31)] 25)))
  repeat (go_big_quiet_step (first | (go_at_call 15; exact Calls.later (HQ.out _)) | (go_at_call 22; exact Calls.later (HB.out _))))
  refine wpQuiet_nil ?_
  rintro _ ⟨⟨w2, hw2⟩, rfl⟩
  go_wp2
  go_ret
  exact ⟨by simp, (hb.alloc _).trans hw2⟩

end Go.Proofs.Ytcphidhheigcbaa
