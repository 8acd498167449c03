/- The tile that contains two tiles: what the package returns. Conditions: the numbers' bounds. -/
import Derived.Test.YtcphidhheigcbaaTileE
import Derived.Test.YtcphidhheigcbaaShared
import Derived.Test.YtcphidhheigcbaaShelf
import Derived.Deep.DeepCutAuto
namespace Go.Proofs.Ytcphidhheigcbaa
open Go.ChangeShapes Go.WideShapes Go.ChangeAt Go.RowKit

theorem zoom_nat (x y z k : Nat) (W : World) (hz : z ≤ 30) (hk : k ≤ z) :
    Calls Try.prog 42 #[.agg #[.int .u32 x, .int .u32 y, .int .u32 z], .int .u32 k] W fun e w' => e = .returned (.agg #[.int .u32 (x / 2 ^ (z - k) : Nat), .int .u32 (y / 2 ^ (z - k) : Nat), .int .u32 k]) ∧ Ext W w' := by
  have h := zoom_up x y z k W (by omega) (by omega) (by omega) (by omega)
  rw [show ((z : Int) - (k : Int)).toNat = z - k by omega] at h
  simpa using h

theorem lz_any (x y : Nat) (W : World) (hx : x < 4294967296) (hy : y < 4294967296) :
    Calls Try.prog 43 #[.int .u32 (bits BinOp.xor .u32 (x : Int) (y : Int))] W fun e w' => e = .returned (.int .i64 (32 - (Lib.bitLen (x ^^^ y) : Int))) ∧ W = w' := by
  rw [u32_xor_nat x y hx hy]
  have hlt : x ^^^ y < 2 ^ 32 := Nat.xor_lt_two_pow hx hy
  refine (Go.Proofs.Try.bits_LeadingZeros32 (x ^^^ y : Nat) W (by omega) (by omega)).mono ?_
  rintro e w' ⟨rfl, rfl⟩
  exact ⟨by simp, rfl⟩

set_option maxHeartbeats 1600000 in
theorem mshared_any (x y z v u k n : Nat) (w : World) (hz : z ≤ 30) (hk : k ≤ 30) (hn : n = min z k) (hx : x < 2 ^ z) (hy : y < 2 ^ z) (hv : v < 2 ^ k) (hu : u < 2 ^ k) :
    Calls Try.prog 40 #[.agg #[.int .u32 x, .int .u32 y, .int .u32 z], .agg #[.int .u32 v, .int .u32 u, .int .u32 k]] w fun e w' =>
      e = .returned (.agg #[.int .u32 (x / 2 ^ (z - n) / 2 ^ mlen (x / 2 ^ (z - n)) (y / 2 ^ (z - n)) (v / 2 ^ (k - n)) (u / 2 ^ (k - n)) : Nat),
        .int .u32 (y / 2 ^ (z - n) / 2 ^ mlen (x / 2 ^ (z - n)) (y / 2 ^ (z - n)) (v / 2 ^ (k - n)) (u / 2 ^ (k - n)) : Nat),
        .int .u32 (n - mlen (x / 2 ^ (z - n)) (y / 2 ^ (z - n)) (v / 2 ^ (k - n)) (u / 2 ^ (k - n)) : Nat)]) ∧ Ext w w' := by
  have HZ := Lib.hid (fun W (h : k ≤ z) => zoom_nat x y z k W hz h)
  have HK := Lib.hid (fun W (h : z ≤ k) => zoom_nat v u k z W hk h)
  have bnd : ∀ a b : Nat, b ≤ 30 → a < 2 ^ b → n ≤ b → a / 2 ^ (b - n) < 2 ^ n := by
    intro a b _ h1 h2
    rw [Nat.div_lt_iff_lt_mul (Nat.pow_pos (by omega)), ← Nat.pow_add, show n + (b - n) = b by omega]; exact h1
  have bX := bnd x z hz hx (by omega)
  have bY := bnd y z hz hy (by omega)
  have bV := bnd v k hk hv (by omega)
  have bU := bnd u k hk hu (by omega)
  have p30 : 2 ^ n ≤ 2 ^ 30 := Nat.pow_le_pow_right (by omega) (by omega)
  obtain ⟨X, hX⟩ : ∃ X, x / 2 ^ (z - n) = X := ⟨_, rfl⟩
  obtain ⟨Y, hY⟩ : ∃ Y, y / 2 ^ (z - n) = Y := ⟨_, rfl⟩
  obtain ⟨V, hV⟩ : ∃ V, v / 2 ^ (k - n) = V := ⟨_, rfl⟩
  obtain ⟨U, hU⟩ : ∃ U, u / 2 ^ (k - n) = U := ⟨_, rfl⟩
  rw [hX] at bX ⊢; rw [hY] at bY ⊢; rw [hV] at bV ⊢; rw [hU] at bU ⊢
  have HX := Lib.hid hX; have HY := Lib.hid hY; have HV := Lib.hid hV; have HU := Lib.hid hU
  have HN := Lib.hid hn
  clear hX hY hV hU hn bnd hx hy hv hu
  have hme := eq_mtile
  go_enter Try.func40, Try.ntmps40
  go_upto_if 12 with (fail)
  go_cut [] (fun wr => wr.heap[w.heap.size]? = some (.cells #[.int .u32 X, .int .u32 Y, .int .u32 n] 48) ∧ wr.heap[w.heap.size + 1]? = some (.cells #[.int .u32 V, .int .u32 U, .int .u32 n] 48) ∧ wr.heap[w.heap.size + 1 + 1]? = some (.cells #[.int .u32 0, .int .u32 0, .int .u32 0] 48) ∧ Ext w wr)
  case first =>
    rcases Nat.lt_trichotomy z k with h | h | h
    · obtain rfl : n = z := by have := HN.out; omega
      have e1 : X = x := by have := HX.out; simpa using this.symm
      have e2 : Y = y := by have := HY.out; simpa using this.symm
      subst e1; subst e2
      have hne : ((n : Int) != (k : Int)) = true := by simp; omega
      have hk2 := fun W => HK.out W (by omega)
      rw [HV.out, HU.out] at hk2
      have HK2 := Lib.hid hk2; clear hk2
      go_wp2_with fail
      refine (HK2.out _).mono ?_
      rintro e w1 ⟨rfl, hb⟩
      have B0 := Ext.blk hb (blk_old (blk_old (blk_new w (.cells #[.int .u32 X, .int .u32 Y, .int .u32 n] 48)) (.cells #[.int .u32 v, .int .u32 u, .int .u32 k] 48)) (.cells #[.int .u32 0, .int .u32 0, .int .u32 0] 48))
      have B1 := Ext.blk hb (blk_old (blk_new (w.alloc (.cells #[.int .u32 X, .int .u32 Y, .int .u32 n] 48)) (.cells #[.int .u32 v, .int .u32 u, .int .u32 k] 48)) (.cells #[.int .u32 0, .int .u32 0, .int .u32 0] 48))
      have B2 := Ext.blk hb (blk_new ((w.alloc (.cells #[.int .u32 X, .int .u32 Y, .int .u32 n] 48)).alloc (.cells #[.int .u32 v, .int .u32 u, .int .u32 k] 48)) (.cells #[.int .u32 0, .int .u32 0, .int .u32 0] 48))
      rw [show (w.alloc (.cells #[.int .u32 X, .int .u32 Y, .int .u32 n] 48)).heap.size = w.heap.size + 1 by simp] at B1
      rw [show ((w.alloc (.cells #[.int .u32 X, .int .u32 Y, .int .u32 n] 48)).alloc (.cells #[.int .u32 v, .int .u32 u, .int .u32 k] 48)).heap.size = w.heap.size + 1 + 1 by simp] at B2
      have C1 := cell_of_blk B1
      have F1 := free_of_blk B1
      have S := Lib.hid (set3 (.int .u32 V) (.int .u32 U) (.int .u32 n) B1)
      go_wp2
      go_meet
      case rel =>
        exact ⟨(S.out.2.1 _ (by omega)).trans B0, S.out.1, (S.out.2.1 _ (by omega)).trans B2,
          (((((((Ext.refl _).alloc _).alloc _).alloc _).trans hb).setCell (by simp) _).setCell (by simp) _).setCell (by simp) _⟩
    · obtain rfl : n = z := by have := HN.out; omega
      subst h
      have e1 : X = x := by have := HX.out; simpa using this.symm
      have e2 : Y = y := by have := HY.out; simpa using this.symm
      have e3 : V = v := by have := HV.out; simpa using this.symm
      have e4 : U = u := by have := HU.out; simpa using this.symm
      subst e1; subst e2; subst e3; subst e4
      go_wp2
      go_meet
      case rel =>
        refine ⟨blk_old (blk_old (blk_new w _) _) _, ?_, ?_, (((Ext.refl _).alloc _).alloc _).alloc _⟩
        · have := blk_old (blk_new (w.alloc (.cells #[.int .u32 X, .int .u32 Y, .int .u32 n] 48)) (.cells #[.int .u32 V, .int .u32 U, .int .u32 n] 48)) (.cells #[.int .u32 0, .int .u32 0, .int .u32 0] 48)
          simpa using this
        · have := blk_new ((w.alloc (.cells #[.int .u32 X, .int .u32 Y, .int .u32 n] 48)).alloc (.cells #[.int .u32 V, .int .u32 U, .int .u32 n] 48)) (.cells #[.int .u32 0, .int .u32 0, .int .u32 0] 48)
          simpa using this
    · obtain rfl : n = k := by have := HN.out; omega
      have e3 : V = v := by have := HV.out; simpa using this.symm
      have e4 : U = u := by have := HU.out; simpa using this.symm
      subst e3; subst e4
      have hne : ((z : Int) != (n : Int)) = true := by simp; omega
      have hk2 := fun W => HZ.out W (by omega)
      rw [HX.out, HY.out] at hk2
      have HK2 := Lib.hid hk2; clear hk2
      go_wp2_with fail
      refine (HK2.out _).mono ?_
      rintro e w1 ⟨rfl, hb⟩
      have B0 := Ext.blk hb (blk_old (blk_old (blk_new w (.cells #[.int .u32 x, .int .u32 y, .int .u32 z] 48)) (.cells #[.int .u32 V, .int .u32 U, .int .u32 n] 48)) (.cells #[.int .u32 0, .int .u32 0, .int .u32 0] 48))
      have B1 := Ext.blk hb (blk_old (blk_new (w.alloc (.cells #[.int .u32 x, .int .u32 y, .int .u32 z] 48)) (.cells #[.int .u32 V, .int .u32 U, .int .u32 n] 48)) (.cells #[.int .u32 0, .int .u32 0, .int .u32 0] 48))
      have B2 := Ext.blk hb (blk_new ((w.alloc (.cells #[.int .u32 x, .int .u32 y, .int .u32 z] 48)).alloc (.cells #[.int .u32 V, .int .u32 U, .int .u32 n] 48)) (.cells #[.int .u32 0, .int .u32 0, .int .u32 0] 48))
      rw [show (w.alloc (.cells #[.int .u32 x, .int .u32 y, .int .u32 z] 48)).heap.size = w.heap.size + 1 by simp] at B1
      rw [show ((w.alloc (.cells #[.int .u32 x, .int .u32 y, .int .u32 z] 48)).alloc (.cells #[.int .u32 V, .int .u32 U, .int .u32 n] 48)).heap.size = w.heap.size + 1 + 1 by simp] at B2
      have C1 := cell_of_blk B0
      have F1 := free_of_blk B0
      have S := Lib.hid (set3 (.int .u32 X) (.int .u32 Y) (.int .u32 n) B0)
      go_wp2
      go_meet
      case rel =>
        exact ⟨S.out.1, (S.out.2.1 _ (by omega)).trans B1, (S.out.2.1 _ (by omega)).trans B2,
          (((((((Ext.refl _).alloc _).alloc _).alloc _).trans hb).setCell (by simp) _).setCell (by simp) _).setCell (by simp) _⟩
  case rest =>
    obtain ⟨B0, B1, B2, hx⟩ := hcut
    have C0 := cell_of_blk B0
    have C1 := cell_of_blk B1
    have C2 := cell_of_blk B2
    have F2 := free_of_blk B2
    have hn30 : n ≤ 30 := by have := HN.out; omega
    by_cases he : X = V ∧ Y = U
    · obtain ⟨rfl, rfl⟩ := he
      have M0 := Lib.hid (show mlen X Y X Y = 0 by simp [mlen, Lib.bitLen, Lib.bitLenAux_zero])
      have S := Lib.hid (set3 (.int .u32 X) (.int .u32 Y) (.int .u32 n) B2)
      clear B0 B1 B2 HX HY HV HU HN HZ HK
      go_wp2
      have D := cell_of_blk S.out.1
      exact bodyPost_ret (v := .agg #[.int .u32 X, .int .u32 Y, .int .u32 n]) (by simp [results, Try.results40, go_sem, D]) rfl ⟨by rw [M0.out]; simp, ((hx.setCell (by simp; omega) _).setCell (by simp; omega) _).setCell (by simp; omega) _⟩
    · have hm : mlen X Y V U ≤ n := mlen_le X Y V U n (by omega) bX bY bV bU
      have LX := Lib.hid (fun W => lz_any X V W (by omega) (by omega))
      have LY := Lib.hid (fun W => lz_any Y U W (by omega) (by omega))
      have HM := Lib.hid (show mlen X Y V U = max (Lib.bitLen (X ^^^ V)) (Lib.bitLen (Y ^^^ U)) from rfl)
      rw [HM.out] at hm
      clear B0 B1 HX HY HV HU HN HZ HK bX bY bV bU p30
      generalize Lib.bitLen (X ^^^ V) = p at *
      generalize Lib.bitLen (Y ^^^ U) = q at *
      have hp : p ≤ 30 := by omega
      have hq : q ≤ 30 := by omega
      have hd : ((X : Int) == (V : Int)) = false ∨ (((X : Int) == (V : Int)) = true ∧ ((Y : Int) == (U : Int)) = false) := by
        by_cases h1 : X = V
        · right; subst h1; simp; intro h2; exact he ⟨rfl, by omega⟩
        · left; simp; omega
      clear he
      have S := Lib.hid (fun m : Nat => set3 (.int .u32 (X / 2 ^ m : Nat)) (.int .u32 (Y / 2 ^ m : Nat)) (.int .u32 (n - m : Nat)) B2)
      clear B2
      have r1 : (32 - (32 - (p : Int))) = p := by omega
      have r2 : (32 - (32 - (q : Int))) = q := by omega
      rcases hd with hd | ⟨hd1, hd2⟩
      all_goals
        by_cases hpq : p < q
        · have hpq' : (p : Int) < (q : Int) := by omega
          have hmq : max p q = q := by omega
          rw [hmq] at hm HM
          clear hmq hpq
          have hm' : (q : Int) ≤ n := by omega
          go_wp2_with (first | (go_at_call 43; with_reducible refine (LX.out _).mono ?_; rintro e w1 ⟨rfl, rfl⟩) | (go_at_call 43; refine (LY.out _).mono ?_; rintro e w2 ⟨rfl, rfl⟩))
          have e1 : (X : Int) / 2 ^ q = ((X / 2 ^ q : Nat) : Int) := by simp
          have e2 : (Y : Int) / 2 ^ q = ((Y / 2 ^ q : Nat) : Int) := by simp
          have e3 : (n : Int) - (q : Int) = ((n - q : Nat) : Int) := by omega
          rw [HM.out, e1, e2, e3]
          have D := cell_of_blk (S.out q).1
          have EE : Ext w (((wc.setCell ⟨w.heap.size + 1 + 1, 0, none⟩ (.int .u32 (X / 2 ^ q : Nat))).setCell ⟨w.heap.size + 1 + 1, 1, none⟩ (.int .u32 (Y / 2 ^ q : Nat))).setCell ⟨w.heap.size + 1 + 1, 2, none⟩ (.int .u32 (n - q : Nat))) := ((hx.setCell (by simp; omega) _).setCell (by simp; omega) _).setCell (by simp; omega) _
          generalize ((wc.setCell ⟨w.heap.size + 1 + 1, 0, none⟩ (.int .u32 (X / 2 ^ q : Nat))).setCell ⟨w.heap.size + 1 + 1, 1, none⟩ (.int .u32 (Y / 2 ^ q : Nat))).setCell ⟨w.heap.size + 1 + 1, 2, none⟩ (.int .u32 (n - q : Nat)) = W5 at D EE ⊢
          exact bodyPost_ret (v := .agg #[.int .u32 (X / 2 ^ q : Nat), .int .u32 (Y / 2 ^ q : Nat), .int .u32 (n - q : Nat)]) (by simp [results, Try.results40, go_sem, D]) rfl ⟨rfl, EE⟩
        · have hpq' : (q : Int) ≤ (p : Int) := by omega
          have hmq : max p q = p := by omega
          rw [hmq] at hm HM
          clear hmq hpq
          have hm' : (p : Int) ≤ n := by omega
          go_wp2_with (first | (go_at_call 43; with_reducible refine (LX.out _).mono ?_; rintro e w1 ⟨rfl, rfl⟩) | (go_at_call 43; refine (LY.out _).mono ?_; rintro e w2 ⟨rfl, rfl⟩))
          have e1 : (X : Int) / 2 ^ p = ((X / 2 ^ p : Nat) : Int) := by simp
          have e2 : (Y : Int) / 2 ^ p = ((Y / 2 ^ p : Nat) : Int) := by simp
          have e3 : (n : Int) - (p : Int) = ((n - p : Nat) : Int) := by omega
          rw [HM.out, e1, e2, e3]
          have D := cell_of_blk (S.out p).1
          have EE : Ext w (((wc.setCell ⟨w.heap.size + 1 + 1, 0, none⟩ (.int .u32 (X / 2 ^ p : Nat))).setCell ⟨w.heap.size + 1 + 1, 1, none⟩ (.int .u32 (Y / 2 ^ p : Nat))).setCell ⟨w.heap.size + 1 + 1, 2, none⟩ (.int .u32 (n - p : Nat))) := ((hx.setCell (by simp; omega) _).setCell (by simp; omega) _).setCell (by simp; omega) _
          generalize ((wc.setCell ⟨w.heap.size + 1 + 1, 0, none⟩ (.int .u32 (X / 2 ^ p : Nat))).setCell ⟨w.heap.size + 1 + 1, 1, none⟩ (.int .u32 (Y / 2 ^ p : Nat))).setCell ⟨w.heap.size + 1 + 1, 2, none⟩ (.int .u32 (n - p : Nat)) = W5 at D EE ⊢
          exact bodyPost_ret (v := .agg #[.int .u32 (X / 2 ^ p : Nat), .int .u32 (Y / 2 ^ p : Nat), .int .u32 (n - p : Nat)]) (by simp [results, Try.results40, go_sem, D]) rfl ⟨rfl, EE⟩

end Go.Proofs.Ytcphidhheigcbaa
