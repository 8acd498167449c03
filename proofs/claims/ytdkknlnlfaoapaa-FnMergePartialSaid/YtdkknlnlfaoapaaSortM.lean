/- Breaking patterns: the row holds the same tiles in some order. No condition but the bounds. -/
import Derived.Test.YtdkknlnlfaoapaaSortI
import Derived.Test.YtdkknlnlfaoapaaShelf
import Derived.Shelf.SlSortFunc.Xorshift
import Derived.Sort.Walk7
namespace Go.Proofs.Ytdkknlnlfaoapaa
open Go.ChangeShapes Go.WideShapes Go.ChangeAt Go.RowKit

theorem next_any (p R : Nat) (w : World) (hR : R < 18446744073709551616) (hp : w.heap[p]? = some (.cells #[.int .u64 (R : Nat)] 84 (0, 0))) :
    Calls Try.prog 53 #[.pointer (some ⟨p, 0, none⟩)] w fun e w' => (∃ R' : Nat, e = .returned (.int .u64 (R' : Nat)) ∧ R' < 18446744073709551616 ∧ w'.heap[p]? = some (.cells #[.int .u64 (R' : Nat)] 84 (0, 0))) ∧ Keep p w w' := by
  have h := Any.xorshift_Next (P := Try.prog) (ρ := Try.gg6_ren) { Try.gg6 with } p 0 R hR w (by rw [cell_of_blk hp]; rfl) (free_of_blk hp 0)
  refine h.mono ?_
  rintro e w' ⟨rfl, rfl⟩
  refine ⟨⟨_, rfl, Sort.xorNextN_lt R hR, ?_⟩, ⟨rfl, rfl, rfl, ?_, ?_⟩⟩
  · show (w.setCell _ _).heap[p]? = _
    rw [blk_setCell hp]; rfl
  · show _ ≤ (w.setCell _ _).heap.size
    rw [size_setCell]; exact Nat.le_refl _
  · intro k _ hk
    show (w.setCell _ _).heap[k]? = _
    exact blk_setCell_ne hk _ _

theorem npt_any (L : Nat) (hL : L ≤ 1048576) (w : World) :
    Calls Try.prog 52 #[.int .i64 (L : Nat)] w fun e w' => e = .returned (.int .u64 ((1 <<< Sort.bitsLen L : Nat) : Int)) ∧ w' = w :=
  Any.nextPowerOfTwo (P := Try.prog) (ρ := Try.gg6_ren) { Try.gg6 with } L (by omega) w

theorem Keep.far {g p : Nat} {W w w2 : World} (h : Keep g W w) (k : Keep p w w2) (hp : W.heap.size ≤ p) : Keep g W w2 :=
  ⟨h.os.trans k.os, h.tape.trans k.tape, h.output.trans k.output, Nat.le_trans h.size k.size, fun j hj hg => (k.block j (Nat.lt_of_lt_of_le hj h.size) (by omega)).trans (h.block j hj hg)⟩

section
variable {g bx n cap : Nat} {ts : List T3} {tail : List Value}
theorem SB.keep {W w w2 : World} {p : Nat} (h : SB g bx n cap ts tail W w) (k : Keep p w w2) (hp : W.heap.size < p) (hb : bx < W.heap.size) : SB g bx n cap ts tail W w2 :=
  ⟨⟨h.srt.sl.keep k (by have := h.gW; omega) (by omega), h.srt.keep.far k (by omega)⟩, (k.block _ (Array.getElem?_eq_some_iff.1 h.box).1 (by omega)).trans h.box, h.gW⟩

set_option maxRecDepth 8000 in
set_option maxHeartbeats 3200000 in
theorem break_any (a L : Nat) (W : World) (h : Sl g bx n cap ts tail W) (hL : 8 ≤ L) (hb : a + L ≤ n) (hn : n ≤ 1048576) :
    Calls Try.prog 45 #[.agg #[(.func (.func 22) #[] #[.pointer (some ⟨bx, 0, none⟩)]), (.func (.func 40) #[] #[.slice (some ⟨g, 0, none⟩) n cap, typeHandle Try.prog 28])], .int .i64 a, .int .i64 ((a + L : Nat) : Int)] W fun e w' => e = .returned (.tuple #[]) ∧ Srt g bx n cap ts tail W w' := by
  have hbx : bx < W.heap.size := (Array.getElem?_eq_some_iff.1 h.box).1
  have hgg := h.g_lt
  obtain ⟨M, hM⟩ : ∃ M : Nat, M = 1 <<< Sort.bitsLen L := ⟨_, rfl⟩
  have hM1 : 1 ≤ M := by rw [hM, Nat.one_shiftLeft]; exact Nat.two_pow_pos _
  have hM2 : M ≤ 2 * L := by rw [hM, Nat.one_shiftLeft]; exact Sort.two_pow_bitsLen_le (by omega)
  have hNP := npt_any L (by omega)
  rw [← hM] at hNP
  have hNP := Lib.hid hNP
  clear hM
  have S0 := Lib.hid (SB.start h)
  have S1 := Lib.hid (S0.out.ext ((Ext.refl _).alloc (.cells #[.int .u64 (L : Nat)] 84)))
  have R0 := Lib.hid (blk_new (W.alloc (.cells #[(.func (.func 22) #[] #[.pointer (some ⟨bx, 0, none⟩)]), (.func (.func 40) #[] #[.slice (some ⟨g, 0, none⟩) n cap, typeHandle Try.prog 28])] 69)) (.cells #[.int .u64 (L : Nat)] 84))
  rw [show (W.alloc (.cells #[(.func (.func 22) #[] #[.pointer (some ⟨bx, 0, none⟩)]), (.func (.func 40) #[] #[.slice (some ⟨g, 0, none⟩) n cap, typeHandle Try.prog 28])] 69)).heap.size = W.heap.size + 1 by simp] at R0
  clear h
  have hLz : ((a : Int) + (L : Int) - (a : Int)) = (L : Int) := by omega
  have h8z : (8 : Int) ≤ (L : Int) := by omega
  go_enter Try.func45, Try.ntmps45
  go_wp2_with fail
  refine (hNP.out _).mono ?_
  rintro e w' ⟨rfl, rfl⟩
  go_wp2
  go_loopg [9] 3 (fun r vi wr => ∃ (t R : Nat), r = 3 - t ∧ vi = .int .i64 ((a : Int) + (L : Int) / 4 * 2 - 1 + (t : Int)) ∧ t ≤ 3 ∧ R < 18446744073709551616 ∧ SB g bx n cap ts tail W wr ∧ wr.heap[W.heap.size + 1]? = some (.cells #[.int .u64 (R : Nat)] 84 (0, 0)))
  case atStart => exact ⟨0, L, rfl, by simp, by omega, by omega, S1.out, R0.out⟩
  case round =>
    clear S0 S1 R0
    obtain ⟨t, R, rfl, rfl, ht, hR, hS, hp⟩ := hrel
    have HS := Lib.hid hS; have HP := Lib.hid hp; clear hS hp
    have C2 := HS.out.cell
    have P2 := cell_of_blk HP.out
    by_cases ht3 : t < 3
    · go_wp2_with fail
      refine (next_any _ R _ hR HP.out).mono ?_
      rintro e w3 ⟨⟨R', rfl, hR', hp3⟩, k3⟩
      have H3 := Lib.hid (HS.out.keep k3 (by omega) hbx)
      have HP3 := Lib.hid hp3
      clear C2 P2 HS HP k3 hp3
      have C3 := H3.out.cell
      have P3 := cell_of_blk HP3.out
      obtain ⟨O, hO⟩ : ∃ O : Nat, O = R' &&& (M - 1) := ⟨_, rfl⟩
      have lO : O ≤ M - 1 := by rw [hO]; exact Nat.and_le_right
      have eAnd : bits .and .u64 (R' : Int) ((M : Int) - 1) = (O : Int) := by
        rw [show ((M : Int) - 1) = ((M - 1 : Nat) : Int) by omega, bits_and_u64_nat _ _ hR' (by omega), hO]
      clear hO
      by_cases hLO : L ≤ O
      · obtain ⟨w5, hsw, hs5⟩ := swap_at _ H3.out.srt.sl ((a : Int) + (L : Int) / 4 * 2 - 1 + (t : Int)) ((a : Int) + ((O : Int) - (L : Int))) (a + L / 4 * 2 - 1 + t) (a + (O - L)) (by omega) (by omega) (by omega) (by omega)
        have H5 := Lib.hid (H3.out.swap hs5)
        have HP5 := Lib.hid ((hs5.2.block _ (Array.getElem?_eq_some_iff.1 HP3.out).1 (by omega)).trans HP3.out)
        clear hs5
        go_wp2
        go_roundg (3 - (t + 1))
        case measure => omega
        case rel => exact ⟨t + 1, R', rfl, congrArg (Value.int .i64) (by omega), by omega, hR', H5.out, HP5.out⟩
      · obtain ⟨w5, hsw, hs5⟩ := swap_at _ H3.out.srt.sl ((a : Int) + (L : Int) / 4 * 2 - 1 + (t : Int)) ((a : Int) + (O : Int)) (a + L / 4 * 2 - 1 + t) (a + O) (by omega) (by omega) (by omega) (by omega)
        have H5 := Lib.hid (H3.out.swap hs5)
        have HP5 := Lib.hid ((hs5.2.block _ (Array.getElem?_eq_some_iff.1 HP3.out).1 (by omega)).trans HP3.out)
        clear hs5
        go_wp2
        go_roundg (3 - (t + 1))
        case measure => omega
        case rel => exact ⟨t + 1, R', rfl, congrArg (Value.int .i64) (by omega), by omega, hR', H5.out, HP5.out⟩
    · obtain rfl : t = 3 := by omega
      go_wp2
      go_end0
      exact ⟨rfl, HS.out.srt⟩
end

end Go.Proofs.Ytdkknlnlfaoapaa
