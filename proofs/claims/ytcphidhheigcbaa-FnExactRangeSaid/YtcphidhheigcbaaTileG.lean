/- The first and the last tile that cover a tile, in the thin package. Conditions: the numbers' bounds. -/
import Derived.Test.YtcphidhheigcbaaTileF
import Derived.Test.YtcphidhheigcbaaRegionE
namespace Go.Proofs.Ytcphidhheigcbaa
open Go.ChangeShapes Go.WideShapes Go.ChangeAt Go.RowKit

set_option maxHeartbeats 800000 in
theorem irange_any (x y z k a b c d : Int) (w : World) (hx0 : 0 ≤ x) (hx1 : x ≤ 4294967295) (hy0 : 0 ≤ y) (hy1 : y ≤ 4294967295) (hz0 : 0 ≤ z) (hz1 : z ≤ 31) (hk0 : 0 ≤ k) (hk1 : k ≤ 31)
    (a0 : 0 ≤ a) (a1 : a ≤ 4294967295) (b0 : 0 ≤ b) (b1 : b ≤ 4294967295) (c0 : 0 ≤ c) (c1 : c ≤ 4294967295) (d0 : 0 ≤ d) (d1 : d ≤ 4294967295)
    (HR : ∀ W, Calls Try.prog 38 #[.agg #[.int .u32 x, .int .u32 y, .int .u32 z], .int .u32 k] W fun e w' => e = .returned (.tuple #[.agg #[.int .u32 a, .int .u32 b, .int .u32 k], .agg #[.int .u32 c, .int .u32 d, .int .u32 k]]) ∧ Ext W w') :
    Calls Try.prog 24 #[.agg #[.int .i64 x, .int .i64 y, .int .i64 z], .int .i64 k] w fun e w' => e = .returned (.tuple #[.agg #[.int .i64 a, .int .i64 b, .int .i64 k], .agg #[.int .i64 c, .int .i64 d, .int .i64 k]]) ∧ Ext w w' := by
  have HT := Lib.hid (fun W => tile_any x y z W hx0 hx1 hy0 hy1 (by omega) (by omega))
  have HP := Lib.hid (fun W => plain_any a b k W a0 a1 b0 b1 (by omega) (by omega))
  have HQ := Lib.hid (fun W => plain_any c d k W c0 c1 d0 d1 (by omega) (by omega))
  have HR := Lib.hid HR
  go_enter Try.func24, Try.ntmps24
  go_wp2_with (first | (go_at_call 27; refine (HT.out _).mono ?_; rintro e w1 ⟨rfl, hb⟩) | (go_at_call 38; refine (HR.out _).mono ?_; rintro e w2 ⟨rfl, hb2⟩))
  refine region_ext_tail 4 (by kernel_rfl) (by kernel_rfl) (fun hc => ?_)
  simp only [List.take_succ_cons, List.take_zero, List.drop_succ_cons, List.drop_zero]
  repeat (go_big_quiet_step (first | (go_at_call 30; with_reducible exact Calls.later (HP.out _)) | (go_at_call 30; exact Calls.later (HQ.out _))))
  refine wpQuiet_nil ?_
  rintro w3 ⟨⟨_, hw3⟩, rfl⟩
  have EX : Ext w2 w3 := (((Ext.refl _).alloc _).alloc _).trans hw3
  have EZ : Ext (((w.alloc (.cells #[.int .i64 x, .int .i64 y, .int .i64 z] 25)).alloc (.cells #[.int .i64 0, .int .i64 0, .int .i64 0] 25)).alloc (.cells #[.int .i64 0, .int .i64 0, .int .i64 0] 25)) w3 := (hb.trans hb2).trans EX
  have B1 := Ext.blk EZ (blk_old (blk_new (w.alloc (.cells #[.int .i64 x, .int .i64 y, .int .i64 z] 25)) (.cells #[.int .i64 0, .int .i64 0, .int .i64 0] 25)) (.cells #[.int .i64 0, .int .i64 0, .int .i64 0] 25))
  have B2 := Ext.blk EZ (blk_new ((w.alloc (.cells #[.int .i64 x, .int .i64 y, .int .i64 z] 25)).alloc (.cells #[.int .i64 0, .int .i64 0, .int .i64 0] 25)) (.cells #[.int .i64 0, .int .i64 0, .int .i64 0] 25))
  rw [show (w.alloc (.cells #[.int .i64 x, .int .i64 y, .int .i64 z] 25)).heap.size = w.heap.size + 1 by simp] at B1
  rw [show ((w.alloc (.cells #[.int .i64 x, .int .i64 y, .int .i64 z] 25)).alloc (.cells #[.int .i64 0, .int .i64 0, .int .i64 0] 25)).heap.size = w.heap.size + 1 + 1 by simp] at B2
  have C1 := cell_of_blk B1
  have C2 := cell_of_blk B2
  have F1 := free_of_blk B1
  have F2 := free_of_blk B2
  go_wp2
  have T1 := set3 (.int .i64 a) (.int .i64 b) (.int .i64 k) B1
  have T2 := set3 (.int .i64 c) (.int .i64 d) (.int .i64 k) ((T1.2.1 (w.heap.size + 1 + 1) (by omega)).trans B2)
  have D1 := cell_of_blk ((T2.2.1 (w.heap.size + 1) (by omega)).trans T1.1)
  have D2 := cell_of_blk T2.1
  clear C1 C2 F1 F2 B1 B2 T1 T2 hc
  exact bodyPost_ret (v := .tuple #[.agg #[.int .i64 a, .int .i64 b, .int .i64 k], .agg #[.int .i64 c, .int .i64 d, .int .i64 k]]) (by simp [results, Try.results24, go_sem, D1, D2]) rfl ⟨rfl,
    ((((((((((Ext.refl _).alloc _).alloc _).alloc _).trans EZ).setCell (by simp) _).setCell (by simp) _).setCell (by simp) _).setCell (by simp; omega) _).setCell (by simp; omega) _).setCell (by simp; omega) _⟩

theorem pow30 (n : Nat) (h : n ≤ 30) : (2 : Int) ^ n ≤ 1073741824 := by
  have h1 : (2 : Int) ^ n ≤ 2 ^ 30 := by exact_mod_cast Nat.pow_le_pow_right (by omega) h
  omega

set_option maxHeartbeats 1000000 in
theorem range_law (x y z k : Int) (w : World) (hx0 : 0 ≤ x) (hx1 : x ≤ 4294967295) (hy0 : 0 ≤ y) (hy1 : y ≤ 4294967295) (hz0 : 0 ≤ z) (hz1 : z ≤ 255) (hk0 : 0 ≤ k) (hk1 : k ≤ 255) :
    Calls Try.prog 10 #[.int .u32 x, .int .u32 y, .int .u8 z, .int .u8 k] w fun e w' => e = .returned (.bool true) ∧ Ext w w' := by
  have HS := Lib.hid (fun W => stile_any x y z W hx0 hx1 hy0 hy1 hz0 hz1)
  obtain ⟨hp0, hp1⟩ := pow_bd (z % 31).toNat (by omega)
  have hp2 : (2 : Int) ^ (z % 31).toNat ≤ 1073741824 := pow30 _ (by omega)
  have hX0 : 0 ≤ x % 2 ^ (z % 31).toNat := Int.emod_nonneg _ (by omega)
  have hX1 : x % 2 ^ (z % 31).toNat < 2 ^ (z % 31).toNat := Int.emod_lt_of_pos _ hp0
  have hY0 : 0 ≤ y % 2 ^ (z % 31).toNat := Int.emod_nonneg _ (by omega)
  have hY1 : y % 2 ^ (z % 31).toNat < 2 ^ (z % 31).toNat := Int.emod_lt_of_pos _ hp0
  generalize x % 2 ^ (z % 31).toNat = X at *
  generalize y % 2 ^ (z % 31).toNat = Y at *
  have he := eq_tile
  by_cases hkz : k % 31 ≤ z % 31
  · have ho := fun W => over_any X Y (z % 31) (k % 31) W (by omega) hkz (by omega) hX0 hY0 (by omega) (by omega)
    have hr : ∀ W, Calls Try.prog 38 #[.agg #[.int .u32 X, .int .u32 Y, .int .u32 (z % 31)], .int .u32 (k % 31)] W fun e w' => e = .returned (.tuple #[.agg #[.int .u32 (X / 2 ^ (z % 31 - k % 31).toNat), .int .u32 (Y / 2 ^ (z % 31 - k % 31).toNat), .int .u32 (k % 31)], .agg #[.int .u32 (X / 2 ^ (z % 31 - k % 31).toNat), .int .u32 (Y / 2 ^ (z % 31 - k % 31).toNat), .int .u32 (k % 31)]]) ∧ Ext W w' := by
      intro W
      rcases Int.lt_or_eq_of_le hkz with h | h
      · exact mrange_up X Y (z % 31) (k % 31) W (by omega) h (by omega)
      · have := mrange_down X Y (z % 31) (k % 31) W (by omega) (by omega) (by omega) hX0 hY0 (by rw [h, Int.sub_self, Int.toNat_zero, Int.pow_zero]; omega) (by rw [h, Int.sub_self, Int.toNat_zero, Int.pow_zero]; omega)
        rw [h, Int.sub_self] at this ⊢
        simp only [Int.toNat_zero, Int.pow_zero, Int.mul_one, Int.ediv_one, Int.add_sub_cancel] at this ⊢
        exact this
    have q0 : ∀ v : Int, 0 ≤ v → v ≤ 1073741824 → 0 ≤ v / 2 ^ (z % 31 - k % 31).toNat ∧ v / 2 ^ (z % 31 - k % 31).toNat ≤ 1073741824 := fun v h0 h1 =>
      ⟨Int.ediv_nonneg h0 (by have := (pow_bd (z % 31 - k % 31).toNat (by omega)).1; omega), Int.le_trans (Int.ediv_le_self _ h0) h1⟩
    obtain ⟨qa, qb⟩ := q0 X hX0 (by omega)
    obtain ⟨qc, qd⟩ := q0 Y hY0 (by omega)
    have hi := fun W => irange_any X Y (z % 31) (k % 31) _ _ _ _ W hX0 (by omega) hY0 (by omega) (by omega) (by omega) (by omega) (by omega) qa (by omega) qc (by omega) qa (by omega) qc (by omega) hr
    clear hr q0
    have HO := Lib.hid ho; have HI := Lib.hid hi
    clear ho hi
    generalize X / 2 ^ (z % 31 - k % 31).toNat = A at *
    generalize Y / 2 ^ (z % 31 - k % 31).toNat = B at *
    go_enter Try.func10, Try.ntmps10
    go_wp2_with (first | (go_at_call 14; refine (HS.out _).mono ?_; rintro e w1 ⟨rfl, hb⟩) | (go_at_call 24; refine (HI.out _).mono ?_; rintro e w2 ⟨rfl, hb2⟩; obtain ⟨hc2, hf2, hs2⟩ := new3 hb2))
    refine region_ext (by kernel_rfl) (by kernel_rfl) (fun hc => ?_)
    have hs3 : w1.heap.size < ((w2.alloc (.cells #[.int .i64 A, .int .i64 B, .int .i64 (k % 31)] 25)).alloc (.cells #[.int .i64 A, .int .i64 B, .int .i64 (k % 31)] 25)).heap.size := by simp; omega
    have hs4 : w1.heap.size < w2.heap.size + 1 := by omega
    have hs5 : w1.heap.size < w2.heap.size + 1 + 1 := by omega
    repeat (go_big_quiet_step ((go_at_call 17; exact Calls.later (HO.out _))))
    refine wpQuiet_nil ?_
    rintro w3 ⟨⟨_, hw3⟩, rfl⟩
    go_wp2
    go_ret
    exact ⟨by simp, ((((hb.alloc _).trans hb2).alloc _).alloc _).trans hw3⟩
  · have hm := (pow_bd (k % 31 - z % 31).toNat (by omega)).1
    have hk2 : (2 : Int) ^ (k % 31).toNat ≤ 1073741824 := pow30 _ (by omega)
    have hmul : (2 : Int) ^ (z % 31).toNat * 2 ^ (k % 31 - z % 31).toNat ≤ 1073741824 := by
      rw [← Int.pow_add, show (z % 31).toNat + (k % 31 - z % 31).toNat = (k % 31).toNat by omega]; exact hk2
    have bd : ∀ v : Int, 0 ≤ v → v < 2 ^ (z % 31).toNat → (v + 1) * 2 ^ (k % 31 - z % 31).toNat ≤ 1073741824 := fun v _ h1 =>
      Int.le_trans (Int.mul_le_mul_of_nonneg_right (by omega) (by omega)) hmul
    have bx := bd X hX0 hX1
    have bY := bd Y hY0 hY1
    have hr := fun W => mrange_down X Y (z % 31) (k % 31) W (by omega) (by omega) (by omega) hX0 hY0 (by omega) (by omega)
    have sp : ∀ v : Int, 0 ≤ v → 0 ≤ v * 2 ^ (k % 31 - z % 31).toNat ∧ (v + 1) * 2 ^ (k % 31 - z % 31).toNat = v * 2 ^ (k % 31 - z % 31).toNat + 2 ^ (k % 31 - z % 31).toNat := fun v h0 =>
      ⟨Int.mul_nonneg h0 (by omega), by rw [Int.add_mul, Int.one_mul]⟩
    obtain ⟨sx0, sx1⟩ := sp X hX0
    obtain ⟨sy0, sy1⟩ := sp Y hY0
    have hi := fun W => irange_any X Y (z % 31) (k % 31) _ _ _ _ W hX0 (by omega) hY0 (by omega) (by omega) (by omega) (by omega) (by omega) sx0 (by omega) sy0 (by omega) (by omega) (by omega) (by omega) (by omega) hr
    have HI := Lib.hid hi
    clear hr hi bd sp
    generalize hM : (2 : Int) ^ (k % 31 - z % 31).toNat = M at *
    have hX3 : X ≤ 1073741823 := by omega
    have hY3 : Y ≤ 1073741823 := by omega
    clear hX1 hY1 hp0 hp1 hp2 hmul hk2
    have w1x : IntKind.i64.wrap (X * M) = X * M := IntWalk.i64_in _ (by omega)
    have w1y : IntKind.i64.wrap (Y * M) = Y * M := IntWalk.i64_in _ (by omega)
    have w2x : IntKind.i64.wrap ((X + 1) * M) = (X + 1) * M := IntWalk.i64_in _ (by omega)
    have w2y : IntKind.i64.wrap ((Y + 1) * M) = (Y + 1) * M := IntWalk.i64_in _ (by omega)
    have w3x : IntKind.i64.wrap ((X + 1) * M - 1) = (X + 1) * M - 1 := IntWalk.i64_in _ (by omega)
    have w3y : IntKind.i64.wrap ((Y + 1) * M - 1) = (Y + 1) * M - 1 := IntWalk.i64_in _ (by omega)
    clear sx1 sy1
    go_enter Try.func10, Try.ntmps10
    go_wp2_with (first | (go_at_call 14; refine (HS.out _).mono ?_; rintro e w1 ⟨rfl, hb⟩) | (go_at_call 24; refine (HI.out _).mono ?_; rintro e w2 ⟨rfl, hb2⟩; obtain ⟨hc2, hf2, hs2⟩ := new3 hb2))
    refine region_ext (by kernel_rfl) (by kernel_rfl) (fun hc => ?_)
    have hs3 : w1.heap.size < ((w2.alloc (.cells #[.int .i64 (X * M), .int .i64 (Y * M), .int .i64 (k % 31)] 25)).alloc (.cells #[.int .i64 ((X + 1) * M - 1), .int .i64 ((Y + 1) * M - 1), .int .i64 (k % 31)] 25)).heap.size := by simp; omega
    have hs4 : w1.heap.size < w2.heap.size + 1 := by omega
    have hs5 : w1.heap.size < w2.heap.size + 1 + 1 := by omega
    repeat (go_big_quiet_step (fail))
    refine wpQuiet_nil ?_
    rintro w3 ⟨⟨_, hw3⟩, rfl⟩
    go_wp2
    go_ret
    exact ⟨by simp, ((((hb.alloc _).trans hb2).alloc _).alloc _).trans hw3⟩

end Go.Proofs.Ytcphidhheigcbaa
