/- FnExactShared answers true. No condition but the arguments' kinds. -/
import Derived.Test.YtcphidhheigcbaaTileH
namespace Go.Proofs.Ytcphidhheigcbaa
open Go.ChangeShapes Go.WideShapes Go.ChangeAt Go.RowKit

set_option maxHeartbeats 800000 in
theorem ishared_any (x y z v u k n a b c : Nat) (w : World) (hz : z ≤ 30) (hk : k ≤ 30) (hn : n = min z k) (hx : x < 2 ^ z) (hy : y < 2 ^ z) (hv : v < 2 ^ k) (hu : u < 2 ^ k)
    (ha : a = x / 2 ^ (z - n) / 2 ^ mlen (x / 2 ^ (z - n)) (y / 2 ^ (z - n)) (v / 2 ^ (k - n)) (u / 2 ^ (k - n))) (hb : b = y / 2 ^ (z - n) / 2 ^ mlen (x / 2 ^ (z - n)) (y / 2 ^ (z - n)) (v / 2 ^ (k - n)) (u / 2 ^ (k - n)))
    (hc : c = n - mlen (x / 2 ^ (z - n)) (y / 2 ^ (z - n)) (v / 2 ^ (k - n)) (u / 2 ^ (k - n))) :
    Calls Try.prog 26 #[.agg #[.int .i64 x, .int .i64 y, .int .i64 z], .agg #[.int .i64 v, .int .i64 u, .int .i64 k]] w fun e w' => e = .returned (.agg #[.int .i64 a, .int .i64 b, .int .i64 c]) ∧ Ext w w' := by
  have pz : 2 ^ z ≤ 2 ^ 30 := Nat.pow_le_pow_right (by omega) hz
  have pk : 2 ^ k ≤ 2 ^ 30 := Nat.pow_le_pow_right (by omega) hk
  have la : a ≤ x := by rw [ha]; exact Nat.le_trans (Nat.div_le_self _ _) (Nat.div_le_self _ _)
  have lb : b ≤ y := by rw [hb]; exact Nat.le_trans (Nat.div_le_self _ _) (Nat.div_le_self _ _)
  have HM := fun W => mshared_any x y z v u k n W hz hk hn hx hy hv hu
  rw [← ha, ← hb, ← hc] at HM
  have hc2 : c ≤ 30 := by omega
  clear ha hb hc hn
  have HM := Lib.hid HM
  have HT := Lib.hid (fun W => tile_any x y z W (by omega) (by omega) (by omega) (by omega) (by omega) (by omega))
  have HU := Lib.hid (fun W => tile_any v u k W (by omega) (by omega) (by omega) (by omega) (by omega) (by omega))
  have HP := Lib.hid (fun W => plain_any a b c W (by omega) (by omega) (by omega) (by omega) (by omega) (by omega))
  clear la lb pz pk hc2 hx hy hv hu
  go_enter Try.func26, Try.ntmps26
  go_wp2_with fail
  refine region_ext_tail 6 (by kernel_rfl) (by kernel_rfl) (fun hc => ?_)
  simp only [List.take_succ_cons, List.take_zero, List.drop_succ_cons, List.drop_zero]
  repeat (go_big_quiet_step (first | (go_at_call 27; with_reducible exact Calls.later (HT.out _)) | (go_at_call 27; exact Calls.later (HU.out _)) | (go_at_call 40; exact Calls.later (HM.out _)) | (go_at_call 30; exact Calls.later (HP.out _))))
  refine wpQuiet_nil ?_
  rintro w3 ⟨⟨_, hw3⟩, rfl⟩
  have B := Ext.blk hw3 (blk_new ((w.alloc (.cells #[.int .i64 x, .int .i64 y, .int .i64 z] 25)).alloc (.cells #[.int .i64 v, .int .i64 u, .int .i64 k] 25)) (.cells #[.int .i64 0, .int .i64 0, .int .i64 0] 25))
  rw [show ((w.alloc (.cells #[.int .i64 x, .int .i64 y, .int .i64 z] 25)).alloc (.cells #[.int .i64 v, .int .i64 u, .int .i64 k] 25)).heap.size = w.heap.size + 1 + 1 by simp] at B
  have C := cell_of_blk B
  have F := free_of_blk B
  have S := Lib.hid (set3 (.int .i64 a) (.int .i64 b) (.int .i64 c) B)
  go_wp2
  have D := cell_of_blk S.out.1
  have EE : Ext w (((w3.setCell ⟨w.heap.size + 1 + 1, 0, none⟩ (.int .i64 a)).setCell ⟨w.heap.size + 1 + 1, 1, none⟩ (.int .i64 b)).setCell ⟨w.heap.size + 1 + 1, 2, none⟩ (.int .i64 c)) :=
    ((((((((Ext.refl _).alloc _).alloc _).alloc _).trans hw3).setCell (by simp; omega) _).setCell (by simp; omega) _).setCell (by simp; omega) _)
  generalize ((w3.setCell ⟨w.heap.size + 1 + 1, 0, none⟩ (.int .i64 a)).setCell ⟨w.heap.size + 1 + 1, 1, none⟩ (.int .i64 b)).setCell ⟨w.heap.size + 1 + 1, 2, none⟩ (.int .i64 c) = W5 at D EE ⊢
  clear C F B S hc
  exact bodyPost_ret (v := .agg #[.int .i64 a, .int .i64 b, .int .i64 c]) (by simp [results, Try.results26, go_sem, D]) rfl ⟨rfl, EE⟩

theorem over_nat (x y z k : Nat) (W : World) (hz : z ≤ 30) (hk : k ≤ z) (hx : x ≤ 1073741824) (hy : y ≤ 1073741824) :
    Calls Try.prog 17 #[.agg #[.int .i64 x, .int .i64 y, .int .i64 z], .int .i64 k] W fun e w' => e = .returned (.agg #[.int .i64 (x / 2 ^ (z - k) : Nat), .int .i64 (y / 2 ^ (z - k) : Nat), .int .i64 k]) ∧ Ext W w' := by
  have h := over_any x y z k W (by omega) (by omega) (by omega) (by omega) (by omega) (by omega) (by omega)
  rw [show ((z : Int) - (k : Int)).toNat = z - k by omega] at h
  simpa using h

theorem stile_nat (x y z : Nat) (W : World) (hx : x ≤ 4294967295) (hy : y ≤ 4294967295) (hz : z ≤ 255) :
    Calls Try.prog 14 #[.int .u32 x, .int .u32 y, .int .u8 z] W fun e w' => e = .returned (.agg #[.int .i64 (x % 2 ^ (z % 31) : Nat), .int .i64 (y % 2 ^ (z % 31) : Nat), .int .i64 (z % 31 : Nat)]) ∧ Ext W w' := by
  have h := stile_any x y z W (by omega) (by omega) (by omega) (by omega) (by omega) (by omega)
  rw [show ((z : Int) % 31).toNat = z % 31 by omega] at h
  simpa using h

set_option maxHeartbeats 1600000 in
theorem shared_law (x y z v u k : Int) (w : World) (hx0 : 0 ≤ x) (hx1 : x ≤ 4294967295) (hy0 : 0 ≤ y) (hy1 : y ≤ 4294967295) (hz0 : 0 ≤ z) (hz1 : z ≤ 255)
    (hv0 : 0 ≤ v) (hv1 : v ≤ 4294967295) (hu0 : 0 ≤ u) (hu1 : u ≤ 4294967295) (hk0 : 0 ≤ k) (hk1 : k ≤ 255) :
    Calls Try.prog 12 #[.int .u32 x, .int .u32 y, .int .u8 z, .int .u32 v, .int .u32 u, .int .u8 k] w fun e w' => e = .returned (.bool true) ∧ Ext w w' := by
  obtain ⟨x, rfl⟩ := Int.eq_ofNat_of_zero_le hx0
  obtain ⟨y, rfl⟩ := Int.eq_ofNat_of_zero_le hy0
  obtain ⟨z, rfl⟩ := Int.eq_ofNat_of_zero_le hz0
  obtain ⟨v, rfl⟩ := Int.eq_ofNat_of_zero_le hv0
  obtain ⟨u, rfl⟩ := Int.eq_ofNat_of_zero_le hu0
  obtain ⟨k, rfl⟩ := Int.eq_ofNat_of_zero_le hk0
  have HS := Lib.hid (fun W => stile_nat x y z W (by omega) (by omega) (by omega))
  have HT := Lib.hid (fun W => stile_nat v u k W (by omega) (by omega) (by omega))
  have bX : x % 2 ^ (z % 31) < 2 ^ (z % 31) := Nat.mod_lt _ (Nat.pow_pos (by omega))
  have bY : y % 2 ^ (z % 31) < 2 ^ (z % 31) := Nat.mod_lt _ (Nat.pow_pos (by omega))
  have bV : v % 2 ^ (k % 31) < 2 ^ (k % 31) := Nat.mod_lt _ (Nat.pow_pos (by omega))
  have bU : u % 2 ^ (k % 31) < 2 ^ (k % 31) := Nat.mod_lt _ (Nat.pow_pos (by omega))
  have bz : z % 31 ≤ 30 := by omega
  have bk : k % 31 ≤ 30 := by omega
  generalize x % 2 ^ (z % 31) = X at *
  generalize y % 2 ^ (z % 31) = Y at *
  generalize v % 2 ^ (k % 31) = V at *
  generalize u % 2 ^ (k % 31) = U at *
  generalize z % 31 = Z at *
  generalize k % 31 = K at *
  have pz : 2 ^ Z ≤ 2 ^ 30 := Nat.pow_le_pow_right (by omega) bz
  have pk : 2 ^ K ≤ 2 ^ 30 := Nat.pow_le_pow_right (by omega) bk
  obtain ⟨n, hn⟩ : ∃ n, n = min Z K := ⟨_, rfl⟩
  have hnz : n ≤ Z := by omega
  have hnk : n ≤ K := by omega
  have bnd : ∀ a b : Nat, a < 2 ^ b → n ≤ b → a / 2 ^ (b - n) < 2 ^ n := by
    intro a b h1 h2
    rw [Nat.div_lt_iff_lt_mul (Nat.pow_pos (by omega)), ← Nat.pow_add, show n + (b - n) = b by omega]; exact h1
  have p32 : 2 ^ n ≤ 2 ^ 30 := Nat.pow_le_pow_right (by omega) (by omega)
  obtain ⟨m, hm⟩ : ∃ m, m = mlen (X / 2 ^ (Z - n)) (Y / 2 ^ (Z - n)) (V / 2 ^ (K - n)) (U / 2 ^ (K - n)) := ⟨_, rfl⟩
  have hmn : m ≤ n := by rw [hm]; exact mlen_le _ _ _ _ n (by omega) (bnd _ _ bX hnz) (bnd _ _ bY hnz) (bnd _ _ bV hnk) (bnd _ _ bU hnk)
  have hiff : ∀ j : Nat, j ≤ n → ((X / 2 ^ (Z - (n - j)) = V / 2 ^ (K - (n - j)) ∧ Y / 2 ^ (Z - (n - j)) = U / 2 ^ (K - (n - j))) ↔ m ≤ j) := by
    intro j hj
    rw [hm, ← mlen_iff _ _ _ _ j (by have := bnd _ _ bX hnz; omega) (by have := bnd _ _ bY hnz; omega) (by have := bnd _ _ bV hnk; omega) (by have := bnd _ _ bU hnk; omega) (by omega)]
    simp only [Nat.div_div_eq_div_mul, ← Nat.pow_add]
    rw [show Z - (n - j) = Z - n + j by omega, show K - (n - j) = K - n + j by omega]
  have HSH := fun W => ishared_any X Y Z V U K n (X / 2 ^ (Z - n) / 2 ^ m) (Y / 2 ^ (Z - n) / 2 ^ m) (n - m) W bz bk hn bX bY bV bU (by rw [hm]) (by rw [hm]) (by rw [hm])
  rw [Nat.div_div_eq_div_mul, Nat.div_div_eq_div_mul, ← Nat.pow_add, show Z - n + m = Z - (n - m) by omega] at HSH
  have HSH := Lib.hid HSH
  have HIFF := Lib.hid hiff
  have HN := Lib.hid hn
  have HOA := Lib.hid (fun (j : Nat) W (h : j ≤ Z) => over_nat X Y Z j W bz h (by omega) (by omega))
  have HOB := Lib.hid (fun (j : Nat) W (h : j ≤ K) => over_nat V U K j W bk h (by omega) (by omega))
  have HV0 := Lib.hid (fun W => valid_any 0 0 0 W (by omega) (by omega) (by omega) (by omega) (by omega) (by omega))
  have hmin : min (Z : Int) (K : Int) = (n : Int) := by omega
  clear hm hiff hn bnd bX bY bV bU pz pk p32
  have he := eq_tile
  go_enter Try.func12, Try.ntmps12
  go_wp2_with (first | (go_at_call 14; with_reducible refine (HS.out _).mono ?_; rintro e w1 ⟨rfl, hb⟩) | (go_at_call 14; refine (HT.out _).mono ?_; rintro e w2 ⟨rfl, hb2⟩))
  have hW := ((hb.trans hb2).alloc (.cells #[.int .i64 X, .int .i64 Y, .int .i64 Z] 25)).alloc (.cells #[.int .i64 V, .int .i64 U, .int .i64 K] 25)
  have B0 := blk_old (blk_new w2 (.cells #[.int .i64 X, .int .i64 Y, .int .i64 Z] 25)) (.cells #[.int .i64 V, .int .i64 U, .int .i64 K] 25)
  have B1 := blk_new (w2.alloc (.cells #[.int .i64 X, .int .i64 Y, .int .i64 Z] 25)) (.cells #[.int .i64 V, .int .i64 U, .int .i64 K] 25)
  rw [show (w2.alloc (.cells #[.int .i64 X, .int .i64 Y, .int .i64 Z] 25)).heap.size = w2.heap.size + 1 by simp] at B1
  generalize (w2.alloc (.cells #[.int .i64 X, .int .i64 Y, .int .i64 Z] 25)).alloc (.cells #[.int .i64 V, .int .i64 U, .int .i64 K] 25) = W0 at hW B0 B1 ⊢
  go_loopg [15] m (fun r i wr => ∃ j : Nat, r + j = m ∧ i = .int .i64 (n - j : Nat) ∧ Ext W0 wr)
  case atStart => exact ⟨0, by omega, rfl, Ext.refl _⟩
  case round =>
    obtain ⟨j, hj, rfl, hwr⟩ := hrel
    have C0 := fun (e : Later wr) => cell_of_blk (Ext.blk (hwr.trans e.h) B0)
    have C1 := fun (e : Later wr) => cell_of_blk (Ext.blk (hwr.trans e.h) B1)
    have OA := Lib.hid (fun W => HOA.out (n - j) W (by omega))
    have OB := Lib.hid (fun W => HOB.out (n - j) W (by omega))
    have hij := HIFF.out j (by omega)
    by_cases hlt : j < m
    · generalize X / 2 ^ (Z - (n - j)) = P at *
      generalize Y / 2 ^ (Z - (n - j)) = Q at *
      generalize V / 2 ^ (K - (n - j)) = R at *
      generalize U / 2 ^ (K - (n - j)) = T at *
      have hd : ((P : Int) == (R : Int)) = false ∨ (((P : Int) == (R : Int)) = true ∧ ((Q : Int) == (T : Int)) = false) := by
        by_cases h1 : P = R
        · right
          exact ⟨by simp [h1], by simp; intro h2; have := hij.1 ⟨h1, by omega⟩; omega⟩
        · left; simp; omega
      have hnj : 1 ≤ ((n - j : Nat) : Int) := by omega
      have hnn : ((n - j : Nat) : Int) ≤ 30 := by omega
      have HJ := Lib.hid (show ((n - j : Nat) : Int) - 1 = ((n - (j + 1) : Nat) : Int) by omega)
      clear hij
      have HR := Lib.hid (show m - (j + 1) + (j + 1) = m ∧ m - (j + 1) < gk by omega)
      generalize n - j = I at *
      clear B0 B1
      rcases hd with hd | ⟨hd1, hd2⟩
      all_goals
        go_wp2_with fail
        refine region_ext (by kernel_rfl) (by kernel_rfl) (fun hc => ?_)
        repeat (go_big_quiet_step (first | (go_at_call 17; with_reducible exact Calls.later (OA.out _)) | (go_at_call 17; exact Calls.later (OB.out _))))
        refine wpQuiet_nil ?_
        rintro w3 ⟨⟨_, hw3⟩, rfl⟩
        go_wp2_with fail
        go_roundg (m - (j + 1))
        case measure => exact HR.out.2
        case rel => exact ⟨j + 1, HR.out.1, by rw [HJ.out], hwr.trans hw3⟩
    · have hjm : j = m := by omega
      subst hjm
      have h2 := hij.2 (Nat.le_refl _)
      obtain ⟨q1, q2⟩ := h2
      have OB2 := OB.out
      rw [← q1, ← q2] at OB2
      have OB2 := Lib.hid OB2
      clear OB hij q1 q2 HIFF HOA HOB
      generalize X / 2 ^ (Z - (n - j)) = P at *
      generalize Y / 2 ^ (Z - (n - j)) = Q at *
      have D0 := cell_of_blk (Ext.blk hwr B0)
      generalize n - j = I at *
      go_wp2_with fail
      refine region_ext (by kernel_rfl) (by kernel_rfl) (fun hc => ?_)
      repeat (go_big_quiet_step (first | (go_at_call 17; with_reducible exact Calls.later (OA.out _)) | (go_at_call 17; exact Calls.later (OB2.out _))))
      refine wpQuiet_nil ?_
      rintro w3 ⟨⟨_, hw3⟩, rfl⟩
      have E0 := fun (e : Later w3) => cell_of_blk (Ext.blk ((hwr.trans hw3).trans e.h) B0)
      have E1 := fun (e : Later w3) => cell_of_blk (Ext.blk ((hwr.trans hw3).trans e.h) B1)
      clear C0 C1 B0 B1 D0 hc
      go_wp2_with fail
      refine region_ext (by kernel_rfl) (by kernel_rfl) (fun hc => ?_)
      repeat (go_big_quiet_step (first | (go_at_call 26; exact Calls.later (HSH.out _)) | (go_at_call 17; exact Calls.later (OA.out _)) | (go_at_call 13; exact Calls.later (HV0.out _))))
      refine wpQuiet_nil ?_
      rintro w4 ⟨⟨_, hw4⟩, rfl⟩
      go_wp2
      go_ret
      exact ⟨by simp, ((hW.trans hwr).trans hw3).trans hw4⟩

end Go.Proofs.Ytcphidhheigcbaa
