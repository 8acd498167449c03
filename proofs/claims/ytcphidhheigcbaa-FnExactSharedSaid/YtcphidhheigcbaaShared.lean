/- How many bits part two tiles, in plain numbers. No condition but the bounds. -/
import Derived.Test.YtcphidhheigcbaaRegionE
import Derived.Lib.BitFns
import Derived.Lib.ItoaNum
namespace Go.Proofs.Ytcphidhheigcbaa

theorem blen_le (a j : Nat) (ha : a < 4294967296) (hj : j ≤ 64) : Lib.bitLen a ≤ j ↔ a < 2 ^ j := by
  constructor
  · intro h
    by_cases h0 : a = 0
    · subst h0; exact Nat.pow_pos (by omega)
    · have := Lib.bitLenAux_bounds 64 a (by omega) h0
      exact Nat.lt_of_lt_of_le this.2.2 (Nat.pow_le_pow_right (by omega) h)
  · intro h
    exact Lib.bitLen_le a j hj h
theorem same_iff (x v j : Nat) (hx : x < 4294967296) (hv : v < 4294967296) (hj : j ≤ 64) : x / 2 ^ j = v / 2 ^ j ↔ Lib.bitLen (x ^^^ v) ≤ j := by
  rw [blen_le _ _ (Nat.xor_lt_two_pow (n := 32) hx hv) hj]
  have e : (x ^^^ v) / 2 ^ j = x / 2 ^ j ^^^ v / 2 ^ j := Nat.xor_div_two_pow
  constructor
  · intro h
    rw [h, Nat.xor_self] at e
    exact (Nat.div_eq_zero_iff_lt (Nat.pow_pos (by omega))).1 e
  · intro h
    rw [Nat.div_eq_of_lt h] at e
    exact Nat.eq_of_testBit_eq fun i => by
      have := congrArg (fun n => n.testBit i) e
      simpa [Nat.testBit_xor] using this
/-- How many levels up two tiles of one zoom meet. -/
def mlen (x y v u : Nat) : Nat := max (Lib.bitLen (x ^^^ v)) (Lib.bitLen (y ^^^ u))
theorem mlen_iff (x y v u j : Nat) (hx : x < 4294967296) (hy : y < 4294967296) (hv : v < 4294967296) (hu : u < 4294967296) (hj : j ≤ 64) : (x / 2 ^ j = v / 2 ^ j ∧ y / 2 ^ j = u / 2 ^ j) ↔ mlen x y v u ≤ j := by
  rw [same_iff x v j hx hv hj, same_iff y u j hy hu hj, mlen]
  omega
theorem mlen_le (x y v u n : Nat) (hn : n ≤ 32) (hx : x < 2 ^ n) (hy : y < 2 ^ n) (hv : v < 2 ^ n) (hu : u < 2 ^ n) : mlen x y v u ≤ n := by
  have h := Nat.pow_le_pow_right (n := 2) (by omega) hn
  have e : (2 : Nat) ^ 32 = 4294967296 := by decide
  rw [← mlen_iff x y v u n (by omega) (by omega) (by omega) (by omega) (by omega)]
  exact ⟨by rw [Nat.div_eq_of_lt hx, Nat.div_eq_of_lt hv], by rw [Nat.div_eq_of_lt hy, Nat.div_eq_of_lt hu]⟩

end Go.Proofs.Ytcphidhheigcbaa
