/- The tiles within a tile: which they are, in plain numbers; and what the thin package returns. Conditions: the numbers' bounds. -/
import Derived.Test.YtcphidhheigcbaaDesc
namespace Go.Proofs.Ytcphidhheigcbaa
open Go.ChangeShapes Go.WideShapes Go.ChangeAt Go.RowKit

theorem colL_mem (x y z : Int) (n : Nat) (t : T3) : t ∈ colL x y z n ↔ t.1 = x ∧ y ≤ t.2.1 ∧ t.2.1 < y + n ∧ t.2.2 = z := by
  obtain ⟨a, b, c⟩ := t
  simp only [colL, List.mem_map, List.mem_range, Prod.mk.injEq]
  constructor
  · rintro ⟨j, hj, rfl, rfl, rfl⟩; omega
  · rintro ⟨rfl, h1, h2, rfl⟩; exact ⟨(b - y).toNat, by omega, rfl, by omega, rfl⟩
theorem sqL_mem (x y z : Int) (m n : Nat) (t : T3) : t ∈ sqL x y z m n ↔ x ≤ t.1 ∧ t.1 < x + m ∧ y ≤ t.2.1 ∧ t.2.1 < y + n ∧ t.2.2 = z := by
  simp only [sqL, List.mem_flatMap, List.mem_range, colL_mem]
  constructor
  · rintro ⟨i, hi, h1, h2⟩; omega
  · rintro ⟨h1, h2, h3⟩; exact ⟨(t.1 - x).toNat, by omega, by omega, h3⟩
theorem allL_mem (x y z : Int) (d m : Nat) (t : T3) : t ∈ allL x y z d m ↔ ∃ e : Nat, d ≤ e ∧ e < d + m ∧ x * 2 ^ e ≤ t.1 ∧ t.1 < x * 2 ^ e + 2 ^ e ∧ y * 2 ^ e ≤ t.2.1 ∧ t.2.1 < y * 2 ^ e + 2 ^ e ∧ t.2.2 = z + e := by
  simp only [allL, List.mem_flatMap, List.mem_range, sqL_mem]
  constructor
  · rintro ⟨i, hi, h⟩; exact ⟨d + i, by omega, by omega, by simpa using h⟩
  · rintro ⟨e, h1, h2, h⟩
    refine ⟨e - d, by omega, ?_⟩
    rw [show d + (e - d) = e by omega]
    simpa using h
theorem colL_nodup (x y z : Int) (n : Nat) : (colL x y z n).Nodup := by
  induction n with
  | zero => simp [colL]
  | succ n ih =>
    rw [colL_succ, List.nodup_append]
    refine ⟨ih, by simp, fun a ha b hb e => ?_⟩
    rw [List.mem_singleton] at hb
    subst e; subst hb
    have := (colL_mem x y z n _).1 ha
    simp at this
theorem sqL_nodup (x y z : Int) (m n : Nat) : (sqL x y z m n).Nodup := by
  induction m with
  | zero => simp [sqL]
  | succ m ih =>
    rw [sqL_succ, List.nodup_append]
    refine ⟨ih, colL_nodup _ _ _ _, fun a ha b hb e => ?_⟩
    subst e
    have h1 := (sqL_mem x y z m n _).1 ha
    have h2 := (colL_mem _ y z n _).1 hb
    omega
theorem allL_nodup (x y z : Int) (d m : Nat) : (allL x y z d m).Nodup := by
  induction m with
  | zero => simp [allL]
  | succ m ih =>
    rw [allL_succ, List.nodup_append]
    refine ⟨ih, sqL_nodup _ _ _ _ _, fun a ha b hb e => ?_⟩
    subst e
    obtain ⟨e, _, h1, _, _, _, _, h2⟩ := (allL_mem x y z d m _).1 ha
    have h3 := ((sqL_mem _ _ _ _ _ _).1 hb).2.2.2.2
    omega

/-- How many there are. -/
def manyN (d : Nat) : Nat → Nat
  | 0 => 0
  | m + 1 => manyN d m + 2 ^ (2 * (d + m))
theorem allL_many (x y z : Int) (d m : Nat) : (allL x y z d m).length = manyN d m := by
  induction m with
  | zero => simp [allL, manyN]
  | succ m ih => rw [allL_succ, List.length_append, sqL_len, ih, manyN, ← Nat.pow_add, show d + m + (d + m) = 2 * (d + m) by omega]

set_option maxHeartbeats 800000 in
theorem idesc_any (x y z f g : Int) (d m : Nat) (w : World) (hz0 : 0 ≤ z) (hz1 : z ≤ 25) (hm : 1 ≤ m) (hd : d + m ≤ 6) (hf : f - z = d) (hg : g - z = (d + m - 1 : Nat)) (hx0 : 0 ≤ x) (hx1 : (x + 1) * 32 ≤ 1073741824) (hy0 : 0 ≤ y) (hy1 : (y + 1) * 32 ≤ 1073741824) :
    Calls Try.prog 25 #[.agg #[.int .i64 x, .int .i64 y, .int .i64 z], .int .i64 f, .int .i64 g] w fun e w' => ∃ v cap, e = .returned (.slice (some ⟨v, 0, none⟩) (allL x y z d m).length cap) ∧ Reads w' (.slice (some ⟨v, 0, none⟩) (allL x y z d m).length cap) (allL x y z d m) ∧ Ext w w' := by
  have HT := Lib.hid (fun W => tile_any x y z W (by omega) (by omega) (by omega) (by omega) (by omega) (by omega))
  have HK := Lib.hid (fun W => mdesc_any x y z f g d m W hz0 hz1 hm hd hf hg hx0 hx1 hy0 hy1)
  have HB := Lib.hid (show ∀ t ∈ allL x y z d m, 0 ≤ t.1 ∧ t.1 ≤ 4294967295 ∧ 0 ≤ t.2.1 ∧ t.2.1 ≤ 4294967295 ∧ 0 ≤ t.2.2 ∧ t.2.2 ≤ 4294967295 by
    intro t ht
    obtain ⟨e, h1, h2, h3, h4, h5, h6, h7⟩ := (allL_mem x y z d m t).1 ht
    have hp := pow_bd e (by omega)
    have hp32 : (2 : Int) ^ e ≤ 32 := by
      have : (2 : Int) ^ e ≤ 2 ^ 5 := by exact_mod_cast Nat.pow_le_pow_right (by omega) (by omega)
      omega
    have b1 : (x + 1) * 2 ^ e ≤ (x + 1) * 32 := Int.mul_le_mul_of_nonneg_left hp32 (by omega)
    have b2 : (y + 1) * 2 ^ e ≤ (y + 1) * 32 := Int.mul_le_mul_of_nonneg_left hp32 (by omega)
    rw [Int.add_mul, Int.one_mul] at b1 b2
    have q1 := Int.mul_nonneg hx0 (Int.le_of_lt hp.1)
    have q2 := Int.mul_nonneg hy0 (Int.le_of_lt hp.1)
    omega)
  have HL := Lib.hid (allL_len x y z d m hd)
  have hm6 : m ≤ 6 := by omega
  have hzf : 0 ≤ f ∧ f ≤ 31 := by omega
  have hzg : 0 ≤ g ∧ g ≤ 31 := by omega
  generalize allL x y z d m = ts at *
  clear hf hg
  go_enter Try.func25, Try.ntmps25
  go_wp2_with (go_at_call 27; refine (HT.out _).mono ?_; rintro e w1 ⟨rfl, hb⟩)
  refine (HK.out _).mono ?_
  rintro e w2 ⟨v, rfl, ho, hb2⟩
  have HO := Lib.hid ho; clear ho
  go_wp2_with fail
  refine (plains_any v ts _ _ HO.out (by have := HL.out; omega) HB.out).mono ?_
  rintro e w3 ⟨v', rfl, ho3, hb3⟩
  obtain ⟨g', cap, rfl, _, _, _⟩ := ho3.form
  have HR := Lib.hid ho3.reads
  clear ho3
  go_wp2
  go_ret
  exact ⟨g', cap, rfl, HR.out, (((Ext.refl _).alloc _).trans hb |>.trans hb2).trans hb3⟩

end Go.Proofs.Ytcphidhheigcbaa
