/- The bits of a key, in plain numbers: what the loops of the package and of the statement compute. No condition but the bounds. -/
import Derived.Test.YtdkknlnlfaoapaaBase
import Derived.Laws.BitsAllLaws
namespace Go.Proofs.Ytdkknlnlfaoapaa

/-- The key after j rounds, as the package reckons it. -/
def keyF (x y : Nat) : Nat → Nat
  | 0 => 0
  | j + 1 => (keyF x y j ||| ((x &&& 2 ^ j) * 2 ^ j)) ||| ((y &&& 2 ^ j) * 2 ^ (j + 1))
/-- The key after j rounds, as the statement reckons it. -/
def wantF (x y : Nat) : Nat → Nat
  | 0 => 0
  | j + 1 => wantF x y j ||| ((x / 2 ^ j % 2) * 2 ^ (2 * j) ||| (y / 2 ^ j % 2) * 2 ^ (2 * j + 1))

theorem bit01 (b n m : Nat) (hb : b < 2) : (b * 2 ^ n).testBit m = (decide (n = m) && decide (b = 1)) := by
  have : b = 0 ∨ b = 1 := by omega
  rcases this with rfl | rfl
  · simp
  · simp [Nat.testBit_two_pow]

theorem bit_mul (x j : Nat) : x &&& 2 ^ j = (x / 2 ^ j % 2) * 2 ^ j := by
  apply Nat.eq_of_testBit_eq
  intro i
  rw [bit01 _ _ _ (Nat.mod_lt _ (by omega)), Nat.testBit_and, Nat.testBit_two_pow, ← Nat.testBit_eq_decide_div_mod_eq]
  by_cases h : j = i
  · subst h; simp
  · simp [h]

theorem key_want (x y j : Nat) : keyF x y j = wantF x y j := by
  induction j with
  | zero => rfl
  | succ j ih =>
    simp only [keyF, wantF, ih, bit_mul, Nat.or_assoc, Nat.mul_assoc, ← Nat.pow_add]
    rw [show j + j = 2 * j by omega, show j + (j + 1) = 2 * j + 1 by omega]

theorem want_lt (x y j : Nat) : wantF x y j < 2 ^ (2 * j) := by
  induction j with
  | zero => simp [wantF]
  | succ j ih =>
    have h0 : x / 2 ^ j % 2 < 2 := Nat.mod_lt _ (by omega)
    have h1 : y / 2 ^ j % 2 < 2 := Nat.mod_lt _ (by omega)
    have e : (2 : Nat) ^ (2 * (j + 1)) = 2 ^ (2 * j) * 4 := by rw [show 2 * (j + 1) = 2 * j + 2 by omega, Nat.pow_add]
    have e' : (2 : Nat) ^ (2 * j + 1) = 2 ^ (2 * j) * 2 := by rw [Nat.pow_add]; 
    have hp : 0 < (2 : Nat) ^ (2 * j) := Nat.pow_pos (by omega)
    unfold wantF
    refine Nat.or_lt_two_pow ?_ (Nat.or_lt_two_pow ?_ ?_)
    · rw [e]; omega
    · rw [e]
      calc _ ≤ 1 * 2 ^ (2 * j) := Nat.mul_le_mul_right _ (by omega)
        _ < _ := by omega
    · rw [e, e']
      calc _ ≤ 1 * (2 ^ (2 * j) * 2) := Nat.mul_le_mul_right _ (by omega)
        _ < _ := by omega

theorem want_bit (x y j i : Nat) : (wantF x y j).testBit (2 * i) = (decide (i < j) && x.testBit i) ∧ (wantF x y j).testBit (2 * i + 1) = (decide (i < j) && y.testBit i) := by
  induction j with
  | zero => simp [wantF]
  | succ j ih =>
    have h0 : x / 2 ^ j % 2 < 2 := Nat.mod_lt _ (by omega)
    have h1 : y / 2 ^ j % 2 < 2 := Nat.mod_lt _ (by omega)
    unfold wantF
    simp only [Nat.testBit_or, ih.1, ih.2, bit01 _ _ _ h0, bit01 _ _ _ h1, ← Nat.testBit_eq_decide_div_mod_eq]
    by_cases hij : i = j
    · subst hij
      simp
    · have a : ¬ 2 * j = 2 * i := by omega
      have b : ¬ 2 * j + 1 = 2 * i := by omega
      have c : ¬ 2 * j = 2 * i + 1 := by omega
      have d : ¬ 2 * j + 1 = 2 * i + 1 := by omega
      have e : (decide (i < j + 1)) = decide (i < j) := by simp; omega
      simp [a, b, c, e]

/-- One round of reading back: bit i of the key's even bits. -/
theorem back_step (k x i n : Nat) (h : k.testBit (n + i) = x.testBit i) : (x % 2 ^ i) ||| ((k &&& 2 ^ (n + i)) / 2 ^ n) = x % 2 ^ (i + 1) := by
  apply Nat.eq_of_testBit_eq
  intro m
  rw [Nat.testBit_or, Nat.testBit_mod_two_pow, Nat.testBit_mod_two_pow, Nat.testBit_div_two_pow, Nat.testBit_and, Nat.testBit_two_pow]
  by_cases hm : m = i
  · subst hm
    simp [Nat.add_comm m n, h]
  · have a : ¬ n + i = m + n := by omega
    have b : decide (m < i + 1) = decide (m < i) := by simp; omega
    simp [a, b]

theorem wrap_u64_nat (n : Nat) (h : n < 18446744073709551616) : IntKind.u64.wrap (n : Int) = (n : Int) := by
  rw [IntKind.wrap_u64]; omega
theorem pow64 (j : Nat) (h : j ≤ 63) : 2 ^ j < 18446744073709551616 := Nat.lt_of_le_of_lt (Nat.pow_le_pow_right (by omega) h) (by decide)
theorem cast_pow (j : Nat) : ((2 : Int) ^ j) = ((2 ^ j : Nat) : Int) := by simp

theorem and_le_pow (x j : Nat) : x &&& 2 ^ j ≤ 2 ^ j := Nat.and_le_right
/-- What one round of the package's loop leaves, in the walk's own form. -/
theorem key_round (x y j : Nat) (hx : x < 4294967296) (hy : y < 4294967296) (hj : j ≤ 30) :
    bits BinOp.or .u64 (bits BinOp.or .u64 ((keyF x y j : Nat) : Int) (IntKind.u64.wrap (bits BinOp.and .u64 (x : Int) (IntKind.u64.wrap (2 ^ j)) * 2 ^ j))) (IntKind.u64.wrap (bits BinOp.and .u64 (y : Int) (IntKind.u64.wrap (2 ^ j)) * 2 ^ (j + 1)))
      = ((keyF x y (j + 1) : Nat) : Int) := by
  have hj1 := pow64 j (by omega)
  have hb : ∀ v : Nat, v < 4294967296 → (v &&& 2 ^ j) * 2 ^ j < 18446744073709551616 ∧ (v &&& 2 ^ j) * 2 ^ (j + 1) < 18446744073709551616 := by
    intro v _
    have h1 : (v &&& 2 ^ j) * 2 ^ j ≤ 2 ^ j * 2 ^ j := Nat.mul_le_mul_right _ (and_le_pow v j)
    have h2 : (v &&& 2 ^ j) * 2 ^ (j + 1) ≤ 2 ^ j * 2 ^ (j + 1) := Nat.mul_le_mul_right _ (and_le_pow v j)
    rw [← Nat.pow_add] at h1 h2
    exact ⟨Nat.lt_of_le_of_lt h1 (pow64 _ (by omega)), Nat.lt_of_le_of_lt h2 (pow64 _ (by omega))⟩
  have hk : keyF x y j < 18446744073709551616 := by rw [key_want]; exact Nat.lt_trans (want_lt x y j) (pow64 _ (by omega))
  simp only [cast_pow]
  rw [wrap_u64_nat _ hj1, u64_and_nat _ _ (by omega) hj1, u64_and_nat _ _ (by omega) hj1, ← Int.natCast_mul, ← Int.natCast_mul, wrap_u64_nat _ (hb x hx).1, wrap_u64_nat _ (hb y hy).2, u64_or_nat _ _ hk (hb x hx).1,
    u64_or_nat _ _ (Nat.or_lt_two_pow (n := 64) (by omega) (by have := (hb x hx).1; omega)) (hb y hy).2]
  rfl

/-- What one round of reading back leaves, in the walk's own form. -/
theorem back_round (q x m n j : Nat) (hq : q < 18446744073709551616) (hm : m = n + j) (hj : j ≤ 30) (hn : n ≤ 31) (hb : q.testBit m = x.testBit j) :
    bits BinOp.or .u32 ((x : Int) % 2 ^ j) (bits BinOp.and .u64 (q : Int) (IntKind.u64.wrap (2 ^ m)) / 2 ^ n % 4294967296) = ((x % 2 ^ (j + 1) : Nat) : Int) := by
  subst hm
  have h1 := pow64 (n + j) (by omega)
  have h2 : (q &&& 2 ^ (n + j)) / 2 ^ n ≤ 2 ^ j := by
    refine Nat.div_le_of_le_mul ?_
    rw [← Nat.pow_add]; exact and_le_pow q (n + j)
  have h3 : 2 ^ j ≤ 2 ^ 30 := Nat.pow_le_pow_right (by omega) hj
  have h4 : x % 2 ^ j < 2 ^ j := Nat.mod_lt _ (Nat.pow_pos (by omega))
  simp only [cast_pow]
  rw [wrap_u64_nat _ h1, u64_and_nat _ _ hq h1, ← Int.natCast_ediv, ← Int.natCast_emod, show (4294967296 : Int) = ((4294967296 : Nat) : Int) from rfl, ← Int.natCast_emod, Nat.mod_eq_of_lt (b := 4294967296) (by omega), u32_or_nat _ _ (by omega) (by omega), back_step q x j n hb]

theorem and1_i64 (n : Nat) (h : n < 4294967296) : bits BinOp.and .i64 (n : Int) 1 = ((n % 2 : Nat) : Int) := by
  have e : ((n &&& 1 : Nat) : Int) < 2 := by have := Nat.and_le_right (n := n) (m := 1); omega
  have h1 : (BitVec.ofInt 64 (n : Int)).toNat = n := by simp; omega
  show IntKind.i64.wrap ((BitVec.ofInt 64 (n : Int) &&& BitVec.ofInt 64 (1 : Int)).toNat : Int) = _
  rw [BitVec.toNat_and, h1, show (BitVec.ofInt 64 (1 : Int)).toNat = 1 from rfl, IntKind.wrap_i64, ← Nat.and_one_is_mod]
  omega
/-- What one round of the statement's loop leaves, in the walk's own form. -/
theorem want_round (x y j : Nat) (hx : x < 4294967296) (hy : y < 4294967296) (hj : j ≤ 30) :
    bits BinOp.or .u64 ((wantF x y j : Nat) : Int) (bits BinOp.or .u64 (IntKind.u64.wrap (IntKind.u64.wrap (bits BinOp.and .i64 ((x : Int) / 2 ^ j) 1) * 2 ^ (2 * j))) (IntKind.u64.wrap (IntKind.u64.wrap (bits BinOp.and .i64 ((y : Int) / 2 ^ j) 1) * 2 ^ (2 * j + 1))))
      = ((wantF x y (j + 1) : Nat) : Int) := by
  have hd : ∀ v : Nat, v < 4294967296 → v / 2 ^ j < 4294967296 := fun v hv => Nat.lt_of_le_of_lt (Nat.div_le_self _ _) hv
  have h2 : ∀ v : Nat, v % 2 < 18446744073709551616 := fun v => by omega
  have hb : ∀ v m : Nat, m ≤ 62 → v % 2 * 2 ^ m < 18446744073709551616 := by
    intro v m hm
    have h1 : v % 2 * 2 ^ m ≤ 1 * 2 ^ m := Nat.mul_le_mul_right _ (by omega)
    exact Nat.lt_of_le_of_lt h1 (by rw [Nat.one_mul]; exact pow64 _ (by omega))
  have hk : wantF x y j < 18446744073709551616 := Nat.lt_trans (want_lt x y j) (pow64 _ (by omega))
  simp only [cast_pow, ← Int.natCast_ediv]
  rw [and1_i64 _ (hd x hx), and1_i64 _ (hd y hy), wrap_u64_nat _ (h2 _), wrap_u64_nat _ (h2 _), ← Int.natCast_mul, ← Int.natCast_mul, wrap_u64_nat _ (hb _ _ (by omega)), wrap_u64_nat _ (hb _ _ (by omega)),
    u64_or_nat _ _ (hb _ _ (by omega)) (hb _ _ (by omega)), u64_or_nat _ _ hk (Nat.or_lt_two_pow (n := 64) (hb _ _ (by omega)) (hb _ _ (by omega)))]
  rfl

end Go.Proofs.Ytdkknlnlfaoapaa
