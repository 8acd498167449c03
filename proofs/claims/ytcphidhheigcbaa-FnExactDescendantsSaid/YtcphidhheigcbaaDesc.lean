/- All tiles within a tile in a range of zooms: what the package returns. Conditions: the numbers' bounds. -/
import Derived.Test.YtcphidhheigcbaaKids
namespace Go.Proofs.Ytcphidhheigcbaa
open Go.ChangeShapes Go.WideShapes Go.ChangeAt Go.RowKit

/-- A column's tiles; a square's; those of a range of zooms. -/
def colL (x y z : Int) (n : Nat) : List T3 := (List.range n).map fun (j : Nat) => (x, y + (j : Int), z)
def sqL (x y z : Int) (m n : Nat) : List T3 := (List.range m).flatMap fun (i : Nat) => colL (x + (i : Int)) y z n
def allL (x y z : Int) (d m : Nat) : List T3 := (List.range m).flatMap fun (i : Nat) => sqL (x * 2 ^ (d + i)) (y * 2 ^ (d + i)) (z + (d + i : Nat)) (2 ^ (d + i)) (2 ^ (d + i))
theorem colL_succ (x y z : Int) (n : Nat) : colL x y z (n + 1) = colL x y z n ++ [(x, y + (n : Int), z)] := by simp [colL, List.range_succ]
theorem sqL_succ (x y z : Int) (m n : Nat) : sqL x y z (m + 1) n = sqL x y z m n ++ colL (x + (m : Int)) y z n := by simp [sqL, List.range_succ]
theorem allL_succ (x y z : Int) (d m : Nat) : allL x y z d (m + 1) = allL x y z d m ++ sqL (x * 2 ^ (d + m)) (y * 2 ^ (d + m)) (z + (d + m : Nat)) (2 ^ (d + m)) (2 ^ (d + m)) := by simp [allL, List.range_succ]
theorem colL_len (x y z : Int) (n : Nat) : (colL x y z n).length = n := by simp [colL]
theorem sqL_len (x y z : Int) (m n : Nat) : (sqL x y z m n).length = m * n := by
  induction m with
  | zero => simp [sqL]
  | succ m ih => rw [sqL_succ, List.length_append, ih, colL_len, Nat.succ_mul]
theorem allL_len (x y z : Int) (d m : Nat) (h : d + m ≤ 6) : (allL x y z d m).length ≤ m * 1024 := by
  induction m with
  | zero => simp [allL]
  | succ m ih =>
    have h1 := ih (by omega)
    have h2 : 2 ^ (d + m) ≤ 2 ^ 5 := Nat.pow_le_pow_right (by omega) (by omega)
    have h3 : 2 ^ (d + m) * 2 ^ (d + m) ≤ 2 ^ 5 * 2 ^ 5 := Nat.mul_le_mul h2 h2
    rw [allL_succ, List.length_append, sqL_len]
    omega

set_option maxHeartbeats 3200000 in
theorem mdesc_any (x y z f g : Int) (d m : Nat) (w : World) (hz0 : 0 ≤ z) (hz1 : z ≤ 25) (hm : 1 ≤ m) (hd : d + m ≤ 6) (hf : f - z = d) (hg : g - z = (d + m - 1 : Nat)) (hx0 : 0 ≤ x) (hx1 : (x + 1) * 32 ≤ 1073741824) (hy0 : 0 ≤ y) (hy1 : (y + 1) * 32 ≤ 1073741824) :
    Calls Try.prog 39 #[.agg #[.int .u32 x, .int .u32 y, .int .u32 z], .int .u32 f, .int .u32 g] w fun e w' => ∃ v, e = .returned v ∧ Owns w' w.heap.size 48 .u32 v (allL x y z d m) ∧ Ext w w' := by
  have p1 : decide (f ≤ g) = true := by simp; omega
  have p2 : decide (z ≤ f) = true := by simp; omega
  have hgb : 0 ≤ g ∧ g ≤ 31 := by omega
  have hfb : 0 ≤ f ∧ f ≤ 31 := by omega
  have hmk : ∀ w, (Instr.makeSlice 55 (.int .i64 0) (.int .i64 0)).run Try.prog w = .ok (.slice (some ⟨w.heap.size, 0, none⟩) 0 0) (w.alloc (.cells #[] 48)) := fun _ => by kernel_rfl
  have D0 := Lib.hid (show d + m ≤ 6 ∧ 1 ≤ m from ⟨hd, hm⟩)
  go_enter Try.func39, Try.ntmps39
  go_wp2
  have HW := Owns.lit (w.alloc (.cells #[.int .u32 x, .int .u32 y, .int .u32 z] 48)) 48 .u32 [] (w.heap.size + 1) (by simp) (by simp [maxLen])
  have BX := blk_new w (.cells #[.int .u32 x, .int .u32 y, .int .u32 z] 48)
  have hW : Ext w (w.alloc (.cells #[.int .u32 x, .int .u32 y, .int .u32 z] 48)) := (Ext.refl _).alloc _
  have hWs : (w.alloc (.cells #[.int .u32 x, .int .u32 y, .int .u32 z] 48)).heap.size = w.heap.size + 1 := by simp
  rw [hWs] at HW
  generalize (w.alloc (.cells #[.int .u32 x, .int .u32 y, .int .u32 z] 48)) = wb at BX hW HW hWs ⊢
  have HW0 := Lib.hid HW; have BX := Lib.hid BX; have HWS := Lib.hid hWs
  clear HW hWs
  go_loopg [9, 10] m (fun r out i wr => ∃ j : Nat, r + j = m ∧ i = .int .u32 (d + j : Nat) ∧ Owns wr (w.heap.size + 1) 48 .u32 out (allL x y z d j) ∧ Ext wb wr)
  case atStart => exact ⟨0, by omega, by simp, by simpa [allL, cells3] using HW0.out, (Ext.refl _).alloc _⟩
  case round =>
    obtain ⟨gj, rfl⟩ : ∃ gj : Nat, gj = gk := ⟨_, rfl⟩
    obtain ⟨j, hj, rfl, hown, hwr⟩ := hrel
    have C := cell_of_blk (Ext.blk hwr BX.out)
    have HOW := Lib.hid hown
    clear hown HW0
    by_cases hlt : j < m
    · have hl : decide (d + j ≤ d + m - 1) = true := by simp; omega
      obtain ⟨e, he⟩ : ∃ e, e = d + j := ⟨_, rfl⟩
      have he5 : e ≤ 5 := by omega
      have hp := pow_bd e (by omega)
      have hp32 : (2 : Int) ^ e ≤ 32 := by
        have : (2 : Int) ^ e ≤ 2 ^ 5 := by exact_mod_cast Nat.pow_le_pow_right (by omega) he5
        omega
      have hN : ((2 ^ e : Nat) : Int) = 2 ^ e := by simp
      have bX : 0 ≤ x * 2 ^ e ∧ x * 2 ^ e + 2 ^ e ≤ 1073741824 := by
        have h1 : (x + 1) * 2 ^ e ≤ (x + 1) * 32 := Int.mul_le_mul_of_nonneg_left hp32 (by omega)
        rw [Int.add_mul, Int.one_mul] at h1
        exact ⟨Int.mul_nonneg hx0 (by omega), by omega⟩
      have bY : 0 ≤ y * 2 ^ e ∧ y * 2 ^ e + 2 ^ e ≤ 1073741824 := by
        have h1 : (y + 1) * 2 ^ e ≤ (y + 1) * 32 := Int.mul_le_mul_of_nonneg_left hp32 (by omega)
        rw [Int.add_mul, Int.one_mul] at h1
        exact ⟨Int.mul_nonneg hy0 (by omega), by omega⟩
      have hxa : (allL x y z d j).length ≤ 6144 := Nat.le_trans (allL_len x y z d j (by omega)) (by omega)
      have HNEXT := Lib.hid (show allL x y z d (j + 1) = allL x y z d j ++ sqL (x * 2 ^ e) (y * 2 ^ e) (z + (e : Nat)) (2 ^ e) (2 ^ e) by rw [allL_succ, he])
      have HE := Lib.hid (show (d + (j + 1) : Nat) = e + 1 ∧ e = d + j by omega)
      obtain ⟨N, hNe⟩ : ∃ N, 2 ^ e = N := ⟨_, rfl⟩
      rw [hNe] at hN HNEXT
      obtain ⟨M, hM⟩ : ∃ M : Int, 2 ^ e = M := ⟨_, rfl⟩
      rw [hM] at hp hp32 hN bX bY HNEXT
      obtain ⟨X1, hX1⟩ : ∃ X1, x * M = X1 := ⟨_, rfl⟩
      obtain ⟨Y1, hY1⟩ : ∃ Y1, y * M = Y1 := ⟨_, rfl⟩
      rw [hX1] at bX HNEXT; rw [hY1] at bY HNEXT
      have wX : X1 % 4294967296 = X1 := by omega
      have wY : Y1 % 4294967296 = Y1 := by omega
      rw [← he] at hl
      have hee : (((d + j : Nat)) : Int) = (e : Int) := by omega
      rw [hee]
      have hN' := hN
      have HNM := Lib.hid hN
      clear hN hN' hNe hee he
      have hNi : (N : Int) ≤ 32 := by have := HNM.out; omega
      generalize allL x y z d j = acc at *
      have HJ := Lib.hid hj
      clear hj
      obtain ⟨wo, rfl⟩ : ∃ wo : World, wo = wr := ⟨_, rfl⟩
      go_wp2
      go_loopg [9, 14] N (fun r out i wr => ∃ k : Nat, r + k = N ∧ i = .int .u32 (X1 + k) ∧ Owns wr (w.heap.size + 1) 48 .u32 out (acc ++ sqL X1 Y1 (z + e) k N) ∧ Ext wb wr)
      case atStart => exact ⟨0, by omega, by simp, by simpa [sqL] using HOW.out, hwr⟩
      case round =>
        clear C hwr
        obtain ⟨gm, rfl⟩ : ∃ gm : Nat, gm = gk := ⟨_, rfl⟩
        obtain ⟨k, hk, rfl, hown2, hwr⟩ := hrel
        have C := cell_of_blk (Ext.blk hwr BX.out)
        have HOW2 := Lib.hid hown2
        clear hown2
        by_cases hltk : k < N
        · have hlk : decide (X1 + (k : Int) < X1 + M) = true := by have := HNM.out; simp; omega
          have hkM : (k : Int) < M := by have := HNM.out; omega
          have HK := Lib.hid hk; clear hk
          have HS := Lib.hid (show acc ++ sqL X1 Y1 (z + e) (k + 1) N = acc ++ sqL X1 Y1 (z + e) k N ++ colL (X1 + k) Y1 (z + e) N by rw [sqL_succ, List.append_assoc])
          have hlen2 : (acc ++ sqL X1 Y1 (z + e) k N).length ≤ 8 * 1024 := by
            rw [List.length_append, sqL_len]
            have : k * N ≤ 32 * 32 := Nat.mul_le_mul (by omega) (by omega)
            omega
          generalize acc ++ sqL X1 Y1 (z + e) k N = acc2 at *
          obtain ⟨wo, rfl⟩ : ∃ wo : World, wo = wr := ⟨_, rfl⟩
          go_wp2
          go_loopg [9, 15] N (fun r out i wr => ∃ h : Nat, r + h = N ∧ i = .int .u32 (Y1 + h) ∧ Owns wr (w.heap.size + 1) 48 .u32 out (acc2 ++ colL (X1 + k) Y1 (z + e) h) ∧ Ext wb wr)
          case atStart => exact ⟨0, by omega, by simp, by simpa [colL] using HOW2.out, hwr⟩
          case round =>
            clear C hwr
            obtain ⟨h, hh, rfl, hown3, hwr⟩ := hrel
            have C := cell_of_blk (Ext.blk hwr BX.out)
            have HOW3 := Lib.hid hown3
            clear hown3
            by_cases hlth : h < N
            · have hlh : decide (Y1 + (h : Int) < Y1 + M) = true := by have := HNM.out; simp; omega
              have hhM : (h : Int) < M := by have := HNM.out; omega
              have HH := Lib.hid hh; clear hh
              have HS3 := Lib.hid (show acc2 ++ colL (X1 + k) Y1 (z + e) (h + 1) = acc2 ++ (colL (X1 + k) Y1 (z + e) h ++ [(X1 + k, Y1 + h, z + e)]) by rw [colL_succ])
              have hlen3 : (acc2 ++ colL (X1 + k) Y1 (z + e) h).length ≤ 9000 := by
                rw [List.length_append, colL_len]
                omega
              have hbase : w.heap.size + 1 ≤ wr.heap.size := by rw [← HWS.out]; exact hwr.size
              go_wp2_with (first | (go_at_call 41; refine (new_any _ _ _ _).mono ?_; rintro e w3 ⟨rfl, hw3⟩) | (at_builtin; refine append_one rfl (.tmp 68) (.tmp 76) 55 rfl (w.heap.size + 1) 48 .u32 _ 12 Try.underlying55 infoM rfl (by decide) _ (acc2 ++ colL (X1 + k) Y1 (z + e) h) _ _ _ rfl (Ext.owns (((Ext.refl wr).trans hw3).alloc _) HOW3.out) rfl (by omega) (Nat.le_trans hbase hw3.size) ?_))
              intro v' w4 hown4 hx4
              go_wp2
              go_roundg (gk - 1)
              case measure => have := HH.out; omega
              case rel => exact ⟨h + 1, by have := HH.out; omega, by go_num, by rw [HS3.out]; exact hown4, hx4 wb ((hwr.trans hw3).alloc _) (by rw [HWS.out]; omega)⟩
            · obtain rfl : h = N := by omega
              have hlh : decide ((h : Int) < M) = false := by have := HNM.out; simp; omega
              have hxM : X1 + (k : Int) + 1 ≤ 1073741824 := by omega
              go_wp2
              go_roundg (gm - 1)
              case measure => have := HK.out; omega
              case rel => exact ⟨k + 1, by have := HK.out; omega, by go_num, by rw [HS.out]; exact HOW3.out, hwr⟩
        · obtain rfl : k = N := by omega
          have hlk : decide ((k : Int) < M) = false := by have := HNM.out; simp; omega
          have HE2 := Lib.hid HE.out.1
          go_wp2
          go_roundg (gj - 1)
          case measure => have := HJ.out; omega
          case rel => exact ⟨j + 1, by have := HJ.out; omega, by rw [HE2.out]; go_num, by rw [HNEXT.out]; exact HOW2.out, hwr⟩
    · obtain rfl : j = m := by omega
      have hl : decide (d + j ≤ d + j - 1) = false := by simp; omega
      go_wp2
      go_ret
      exact ⟨_, rfl, ⟨⟨HOW.out.1.1, HOW.out.1.2.imp id (fun ⟨g, cap, cur, a, b, c⟩ => ⟨g, cap, cur, a, Nat.le_trans (Nat.le_succ _) b, c⟩)⟩, HOW.out.2⟩, hW.trans hwr⟩

end Go.Proofs.Ytcphidhheigcbaa
