/- The statements on tiles that contain each other: the Go text answers true. No condition but the arguments' kinds. -/
import Derived.Test.YtcphidhheigcbaaTileC
import Derived.Test.YtcphidhheigcbaaRegionE
namespace Go.Proofs.Ytcphidhheigcbaa
open Go.ChangeShapes Go.WideShapes Go.ChangeAt Go.RowKit

set_option maxHeartbeats 400000 in
theorem over_same (x y z k : Int) (w : World) (hk : z ≤ k) :
    Calls Try.prog 17 #[.agg #[.int .i64 x, .int .i64 y, .int .i64 z], .int .i64 k] w fun e w' => e = .returned (.agg #[.int .i64 x, .int .i64 y, .int .i64 z]) ∧ Ext w w' := by
  go_enter Try.func17, Try.ntmps17
  go_wp2
  go_loopg [] 0 (fun n wr => wr = (w.alloc (Obj.cells #[.int .i64 x, .int .i64 y, .int .i64 z] 25)).alloc (Obj.cells #[.int .i64 0, .int .i64 0, .int .i64 0] 25))
  case atStart => rfl
  case round =>
    obtain rfl := hrel
    go_wp2
    exact bodyPost_ret (v := .agg #[.int .i64 x, .int .i64 y, .int .i64 z]) (by simp [results, Try.results17, go_sem]) rfl ⟨rfl, ((Ext.refl _).alloc _).alloc _⟩

/-- The last line of FnExactContains: whatever the first tile is. -/
theorem cont_end (x y z v u k : Int) (hz : z ≤ k) : contB x y z v u k = (v / 2 ^ (k - z).toNat == x && (u / 2 ^ (k - z).toNat == y && z == z)) := by
  simp only [contB, hz, decide_true, Bool.true_and, beq_self_eq_true, Bool.and_true]
  rw [Bool.eq_iff_iff]
  simp only [Bool.and_eq_true, beq_iff_eq]
  constructor <;> rintro ⟨a, b⟩ <;> exact ⟨a.symm, b.symm⟩

set_option maxHeartbeats 1000000 in
theorem contains_law (x y z v u k : Int) (up : Bool) (w : World) (hx0 : 0 ≤ x) (hx1 : x ≤ 4294967295) (hy0 : 0 ≤ y) (hy1 : y ≤ 4294967295) (hz0 : 0 ≤ z) (hz1 : z ≤ 255)
    (hv0 : 0 ≤ v) (hv1 : v ≤ 4294967295) (hu0 : 0 ≤ u) (hu1 : u ≤ 4294967295) (hk0 : 0 ≤ k) (hk1 : k ≤ 255) :
    Calls Try.prog 7 #[.int .u32 x, .int .u32 y, .int .u8 z, .int .u32 v, .int .u32 u, .int .u8 k, .bool up] w fun e w' => e = .returned (.bool true) ∧ Ext w w' := by
  have HS := Lib.hid (fun W => stile_any x y z W hx0 hx1 hy0 hy1 hz0 hz1)
  have HT := Lib.hid (fun W => stile_any v u k W hv0 hv1 hu0 hu1 hk0 hk1)
  have bnd : ∀ a b : Int, 0 ≤ a → b % 31 ≤ 30 → 0 ≤ a % 2 ^ (b % 31).toNat ∧ a % 2 ^ (b % 31).toNat ≤ 1073741824 := by
    intro a b _ _
    have h0 : (0 : Int) < 2 ^ (b % 31).toNat := (pow_bd _ (by omega)).1
    have h1 : (2 : Int) ^ (b % 31).toNat ≤ 2 ^ 30 := by exact_mod_cast Nat.pow_le_pow_right (by omega) (by omega)
    have h2 := Int.emod_lt_of_pos a h0
    exact ⟨Int.emod_nonneg _ (by omega), by omega⟩
  obtain ⟨hX0, hX1⟩ := bnd x z hx0 (by omega)
  obtain ⟨hY0, hY1⟩ := bnd y z hy0 (by omega)
  obtain ⟨hV0, hV1⟩ := bnd v k hv0 (by omega)
  obtain ⟨hU0, hU1⟩ := bnd u k hu0 (by omega)
  clear bnd
  generalize x % 2 ^ (z % 31).toNat = X at *
  generalize y % 2 ^ (z % 31).toNat = Y at *
  generalize v % 2 ^ (k % 31).toNat = V at *
  generalize u % 2 ^ (k % 31).toNat = U at *
  have Z0 : 0 ≤ z % 31 := by omega
  have Z1 : z % 31 ≤ 30 := by omega
  have K0 : 0 ≤ k % 31 := by omega
  have K1 : k % 31 ≤ 30 := by omega
  have he := eq_tile
  -- what the first tile is behind the 'if'
  obtain ⟨X', Y', Z', hfirst⟩ : ∃ X' Y' Z' : Int, (0 ≤ X' ∧ X' ≤ 1073741824 ∧ 0 ≤ Y' ∧ Y' ≤ 1073741824 ∧ 0 ≤ Z' ∧ Z' ≤ 30) ∧
      ((up = true ∧ (∀ W, Calls Try.prog 17 #[.agg #[.int .i64 V, .int .i64 U, .int .i64 (k % 31)], .int .i64 (z % 31)] W fun e w' => e = .returned (.agg #[.int .i64 X', .int .i64 Y', .int .i64 Z']) ∧ Ext W w')) ∨ (up = false ∧ X' = X ∧ Y' = Y ∧ Z' = z % 31)) := by
    cases up
    · exact ⟨X, Y, z % 31, ⟨by omega, by omega, by omega, by omega, by omega, by omega⟩, .inr ⟨rfl, rfl, rfl, rfl⟩⟩
    · rcases Int.le_total (z % 31) (k % 31) with h | h
      · have p0 : (0 : Int) < 2 ^ (k % 31 - z % 31).toNat := (pow_bd _ (by omega)).1
        refine ⟨_, _, _, ⟨?_, ?_, ?_, ?_, ?_, ?_⟩, .inl ⟨rfl, fun W => over_any V U (k % 31) (z % 31) W Z0 h (by omega) hV0 hU0 (by omega) (by omega)⟩⟩
        · exact Int.ediv_nonneg hV0 (by omega)
        · exact Int.le_trans (Int.ediv_le_self _ hV0) hV1
        · exact Int.ediv_nonneg hU0 (by omega)
        · exact Int.le_trans (Int.ediv_le_self _ hU0) hU1
        · exact Z0
        · exact Z1
      · exact ⟨_, _, _, ⟨hV0, hV1, hU0, hU1, K0, K1⟩, .inl ⟨rfl, fun W => over_same V U (k % 31) (z % 31) W h⟩⟩
  obtain ⟨⟨a1, a2, a3, a4, a5, a6⟩, hfirst⟩ := hfirst
  have HC := Lib.hid (fun W => icontains_any X' Y' Z' V U (k % 31) W a5 (by omega) K0 (by omega) a1 (by omega) a3 (by omega) hV0 (by omega) hU0 (by omega))
  rcases hfirst with ⟨rfl, hf⟩ | ⟨rfl, rfl, rfl, rfl⟩
  · have HF := Lib.hid hf; clear hf
    by_cases hz : Z' ≤ k % 31
    · have hd : decide (Z' ≤ k % 31) = true := by simpa using hz
      have HE := Lib.hid (cont_end X' Y' Z' V U (k % 31) hz)
      have HO := Lib.hid (fun W => over_any V U (k % 31) Z' W a5 hz (by omega) hV0 hU0 (by omega) (by omega))
      generalize contB X' Y' Z' V U (k % 31) = r at *
      generalize V / 2 ^ (k % 31 - Z').toNat = V' at *
      generalize U / 2 ^ (k % 31 - Z').toNat = U' at *
      go_enter Try.func7, Try.ntmps7
      go_wp2_with (first | (go_at_call 14; with_reducible refine (HS.out _).mono ?_; rintro e w1 ⟨rfl, hb⟩) | (go_at_call 14; refine (HT.out _).mono ?_; rintro e w2 ⟨rfl, hb2⟩))
      refine (HF.out _).mono ?_
      rintro e w3 ⟨rfl, hb3⟩
      obtain ⟨hc3, hf3⟩ := bcell hb3
      have B0 := Ext.blk hb3 (blk_old (blk_new w2 (.cells #[.int .i64 X, .int .i64 Y, .int .i64 (z % 31)] 25)) (.cells #[.int .i64 V, .int .i64 U, .int .i64 (k % 31)] 25))
      have B1 := Ext.blk hb3 (blk_new (w2.alloc (.cells #[.int .i64 X, .int .i64 Y, .int .i64 (z % 31)] 25)) (.cells #[.int .i64 V, .int .i64 U, .int .i64 (k % 31)] 25))
      rw [show (w2.alloc (.cells #[.int .i64 X, .int .i64 Y, .int .i64 (z % 31)] 25)).heap.size = w2.heap.size + 1 by simp] at B1
      obtain ⟨S0, SK, SS⟩ := set3 (.int .i64 X') (.int .i64 Y') (.int .i64 Z') B0
      have S1 := (SK (w2.heap.size + 1) (by omega)).trans B1
      have hs2 := (Array.getElem?_eq_some_iff.1 S1).1
      have hs1 := (Array.getElem?_eq_some_iff.1 S0).1
      have EX : Ext w ((((w3.setCell ⟨w2.heap.size, 0, none⟩ (.int .i64 X'))).setCell ⟨w2.heap.size, 1, none⟩ (.int .i64 Y')).setCell ⟨w2.heap.size, 2, none⟩ (.int .i64 Z')) :=
        ((((((hb.trans hb2).alloc _).alloc _).trans hb3).setCell (hb.trans hb2).size _).setCell (hb.trans hb2).size _).setCell (hb.trans hb2).size _
      have C0 := cell_of_blk S0
      have C1 := cell_of_blk S1
      clear SK SS S0 S1 B0 B1
      go_wp2
      generalize (((w3.setCell ⟨w2.heap.size, 0, none⟩ (.int .i64 X'))).setCell ⟨w2.heap.size, 1, none⟩ (.int .i64 Y')).setCell ⟨w2.heap.size, 2, none⟩ (.int .i64 Z') = W4 at *
      refine region_ext (by kernel_rfl) (by kernel_rfl) (fun hc => ?_)
      repeat (go_big_quiet_step (first | (go_at_call 21; exact Calls.later (HC.out _)) | (go_at_call 17; exact Calls.later (HO.out _))))
      refine wpQuiet_nil ?_
      rintro _ ⟨⟨w4, hw4⟩, rfl⟩
      go_wp2
      go_ret
      exact ⟨by simp [HE.out], EX.trans hw4⟩
    · have hd : decide (Z' ≤ k % 31) = false := by simpa using hz
      have hr : contB X' Y' Z' V U (k % 31) = false := by simp only [contB, hd, Bool.false_and]
      rw [hr] at HC; clear hr
      go_enter Try.func7, Try.ntmps7
      go_wp2_with (first | (go_at_call 14; with_reducible refine (HS.out _).mono ?_; rintro e w1 ⟨rfl, hb⟩) | (go_at_call 14; refine (HT.out _).mono ?_; rintro e w2 ⟨rfl, hb2⟩))
      refine (HF.out _).mono ?_
      rintro e w3 ⟨rfl, hb3⟩
      obtain ⟨hc3, hf3⟩ := bcell hb3
      have B0 := Ext.blk hb3 (blk_old (blk_new w2 (.cells #[.int .i64 X, .int .i64 Y, .int .i64 (z % 31)] 25)) (.cells #[.int .i64 V, .int .i64 U, .int .i64 (k % 31)] 25))
      have B1 := Ext.blk hb3 (blk_new (w2.alloc (.cells #[.int .i64 X, .int .i64 Y, .int .i64 (z % 31)] 25)) (.cells #[.int .i64 V, .int .i64 U, .int .i64 (k % 31)] 25))
      rw [show (w2.alloc (.cells #[.int .i64 X, .int .i64 Y, .int .i64 (z % 31)] 25)).heap.size = w2.heap.size + 1 by simp] at B1
      obtain ⟨S0, SK, SS⟩ := set3 (.int .i64 X') (.int .i64 Y') (.int .i64 Z') B0
      have S1 := (SK (w2.heap.size + 1) (by omega)).trans B1
      have hs2 := (Array.getElem?_eq_some_iff.1 S1).1
      have hs1 := (Array.getElem?_eq_some_iff.1 S0).1
      have EX : Ext w ((((w3.setCell ⟨w2.heap.size, 0, none⟩ (.int .i64 X'))).setCell ⟨w2.heap.size, 1, none⟩ (.int .i64 Y')).setCell ⟨w2.heap.size, 2, none⟩ (.int .i64 Z')) :=
        ((((((hb.trans hb2).alloc _).alloc _).trans hb3).setCell (hb.trans hb2).size _).setCell (hb.trans hb2).size _).setCell (hb.trans hb2).size _
      have C0 := cell_of_blk S0
      have C1 := cell_of_blk S1
      clear SK SS S0 S1 B0 B1
      go_wp2
      generalize (((w3.setCell ⟨w2.heap.size, 0, none⟩ (.int .i64 X'))).setCell ⟨w2.heap.size, 1, none⟩ (.int .i64 Y')).setCell ⟨w2.heap.size, 2, none⟩ (.int .i64 Z') = W4 at *
      refine region_ext (by kernel_rfl) (by kernel_rfl) (fun hc => ?_)
      repeat (go_big_quiet_step (first | (go_at_call 21; exact Calls.later (HC.out _))))
      refine wpQuiet_nil ?_
      rintro _ ⟨⟨w4, hw4⟩, rfl⟩
      go_wp2
      go_ret
      exact ⟨by simp, EX.trans hw4⟩
  · by_cases hz : z % 31 ≤ k % 31
    · have hd : decide (z % 31 ≤ k % 31) = true := by simpa using hz
      have HE := Lib.hid (cont_end X' Y' (z % 31) V U (k % 31) hz)
      have HO := Lib.hid (fun W => over_any V U (k % 31) (z % 31) W a5 hz (by omega) hV0 hU0 (by omega) (by omega))
      generalize contB X' Y' (z % 31) V U (k % 31) = r at *
      generalize V / 2 ^ (k % 31 - (z % 31)).toNat = V' at *
      generalize U / 2 ^ (k % 31 - (z % 31)).toNat = U' at *
      go_enter Try.func7, Try.ntmps7
      go_wp2_with (first | (go_at_call 14; with_reducible refine (HS.out _).mono ?_; rintro e w1 ⟨rfl, hb⟩) | (go_at_call 14; refine (HT.out _).mono ?_; rintro e w2 ⟨rfl, hb2⟩))
      refine region_ext (by kernel_rfl) (by kernel_rfl) (fun hc => ?_)
      repeat (go_big_quiet_step (first | (go_at_call 21; exact Calls.later (HC.out _)) | (go_at_call 17; exact Calls.later (HO.out _))))
      refine wpQuiet_nil ?_
      rintro _ ⟨⟨w4, hw4⟩, rfl⟩
      go_wp2
      go_ret
      exact ⟨by simp [HE.out], (((hb.trans hb2).alloc _).alloc _).trans hw4⟩
    · have hd : decide ((z % 31) ≤ k % 31) = false := by simpa using hz
      have hr : contB X' Y' (z % 31) V U (k % 31) = false := by simp only [contB, hd, Bool.false_and]
      rw [hr] at HC; clear hr
      go_enter Try.func7, Try.ntmps7
      go_wp2_with (first | (go_at_call 14; with_reducible refine (HS.out _).mono ?_; rintro e w1 ⟨rfl, hb⟩) | (go_at_call 14; refine (HT.out _).mono ?_; rintro e w2 ⟨rfl, hb2⟩))
      refine region_ext (by kernel_rfl) (by kernel_rfl) (fun hc => ?_)
      repeat (go_big_quiet_step (first | (go_at_call 21; exact Calls.later (HC.out _))))
      refine wpQuiet_nil ?_
      rintro _ ⟨⟨w4, hw4⟩, rfl⟩
      go_wp2
      go_ret
      exact ⟨by simp, (((hb.trans hb2).alloc _).alloc _).trans hw4⟩

end Go.Proofs.Ytcphidhheigcbaa
