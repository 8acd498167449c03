/- FnExactDescendants answers true. No condition but the arguments' kinds. -/
import Derived.Test.YtcphidhheigcbaaDesc2
import Derived.Test.YtcphidhheigcbaaSets
import Derived.Test.YtcphidhheigcbaaTileE
namespace Go.Proofs.Ytcphidhheigcbaa
open Go.ChangeShapes Go.WideShapes Go.ChangeAt Go.RowKit

theorem ck_int (n : Nat) (b : Bool) (k : IntKind) (x : Int) (t : TypeId) (w : World) (ht : Try.prog.underlying t = some (.int k)) : (Instr.checkKey b (n + 1) t (.int k x)).run Try.prog w = .ok () w := by
  simp [Instr.checkKey, run_underlying ht]
theorem ck_tile (n : Nat) (b : Bool) (x y z : Int) (w : World) : (Instr.checkKey b (n + 2) 25 (.agg #[.int .i64 x, .int .i64 y, .int .i64 z])).run Try.prog w = .ok () w := by
  rw [show n + 2 = (n + 1) + 1 from rfl, Instr.checkKey]
  simp only [Sem.run_bind, run_underlying Try.underlying25, Result.andThen_ok]
  simp [go_sem, ck_int _ b .i64 _ 3 _ Try.underlying3]
theorem key_tile : TileKey Try.prog 25 .i64 := ⟨eq_tile, fun b x y z w => ck_tile 9998 b x y z w, ⟨_, Try.underlying25⟩⟩
theorem zero_bool (w : World) : (zeroValue 4).run Try.prog w = .ok (.bool false) w := by kernel_rfl

/-- A map's block set anew. -/
def putSet (w : World) (r : Nat) (k : IntKind) (l : Ents) : World := { w with heap := w.heap.setIfInBounds r (.map (ents k 0 l).toArray l.length) }
theorem Ext.putSet {a b : World} (h : Ext a b) {r : Nat} (hr : a.heap.size ≤ r) (k : IntKind) (l : Ents) : Ext a (putSet b r k l) :=
  Below.trans h ⟨rfl, rfl, rfl, by simp [Proofs.Ytcphidhheigcbaa.putSet], fun i hi => by simp only [Proofs.Ytcphidhheigcbaa.putSet]; rw [Array.getElem?_setIfInBounds_ne (by omega)]⟩
theorem setAt_put {k : IntKind} {w : World} {r : Nat} {l : Ents} (h : SetAt k w r l) (m : Ents) : SetAt k (putSet w r k m) r m := by
  have := (Array.getElem?_eq_some_iff.1 h).1
  simp [SetAt, putSet, this]
theorem Ext.setAt {a b : World} (h : Ext a b) {k : IntKind} {r : Nat} {l : Ents} (hs : SetAt k a r l) : SetAt k b r l := Ext.blk h hs

theorem get_all (l : List T3) (t : T3) : getB (l.map fun u => (u, true)) t = decide (t ∈ l) := by
  unfold getB
  cases h : seek t (l.map fun u => (u, true)) 0 with
  | none =>
    have := (seek_none t _).1 h
    have hn : t ∉ l := fun hm => this (t, true) (List.mem_map.2 ⟨t, hm, rfl⟩) rfl
    simp only [hn, decide_false]
  | some p =>
    obtain ⟨j, c⟩ := p
    have hj := List.mem_of_getElem? (seek_some t _ j c h)
    obtain ⟨u, hu, he⟩ := List.mem_map.1 hj
    have h1 : u = t := congrArg Prod.fst he
    have h2 : true = c := congrArg Prod.snd he
    subst h1; subst h2
    simp only [hu, decide_true]
theorem put_all (l : List T3) (t : T3) (h : t ∉ l) : putB (l.map fun u => (u, true)) t true = (l ++ [t]).map fun u => (u, true) := by
  unfold putB
  cases hs : seek t (l.map fun u => (u, true)) 0 with
  | none => simp only [List.map_append, List.map_cons, List.map_nil]
  | some p =>
    obtain ⟨j, c⟩ := p
    have hj := List.mem_of_getElem? (seek_some t _ j c hs)
    obtain ⟨u, hu, he⟩ := List.mem_map.1 hj
    have h1 : u = t := congrArg Prod.fst he
    subst h1
    exact absurd hu h

set_option maxHeartbeats 3200000 in
theorem descendants_law (x y z k n : Int) (w : World) (hx0 : 0 ≤ x) (hx1 : x ≤ 4294967295) (hy0 : 0 ≤ y) (hy1 : y ≤ 4294967295) (hz0 : 0 ≤ z) (hz1 : z ≤ 255) (hk0 : 0 ≤ k) (hk1 : k ≤ 255) (hn0 : 0 ≤ n) (hn1 : n ≤ 255) :
    Calls Try.prog 11 #[.int .u32 x, .int .u32 y, .int .u8 z, .int .u8 k, .int .u8 n] w fun e w' => e = .returned (.bool true) ∧ Ext w w' := by
  have hs := fun W => stile_any x y (z % 26) W hx0 hx1 hy0 hy1 (by omega) (by omega)
  rw [show z % 26 % 31 = z % 26 by omega] at hs
  have HS := Lib.hid hs; clear hs
  obtain ⟨hp0, hp1⟩ := pow_bd (z % 26).toNat (by omega)
  have hp2 : (2 : Int) ^ (z % 26).toNat ≤ 33554432 := by
    have h1 : (2 : Int) ^ (z % 26).toNat ≤ 2 ^ 25 := by exact_mod_cast Nat.pow_le_pow_right (by omega) (by omega)
    omega
  have hX0 : 0 ≤ x % 2 ^ (z % 26).toNat := Int.emod_nonneg _ (by omega)
  have hX1 : x % 2 ^ (z % 26).toNat < 2 ^ (z % 26).toNat := Int.emod_lt_of_pos _ hp0
  have hY0 : 0 ≤ y % 2 ^ (z % 26).toNat := Int.emod_nonneg _ (by omega)
  have hY1 : y % 2 ^ (z % 26).toNat < 2 ^ (z % 26).toNat := Int.emod_lt_of_pos _ hp0
  have hX2 : (x % 2 ^ (z % 26).toNat + 1) * 32 ≤ 1073741824 := by omega
  have hY2 : (y % 2 ^ (z % 26).toNat + 1) * 32 ≤ 1073741824 := by omega
  generalize x % 2 ^ (z % 26).toNat = X at *
  generalize y % 2 ^ (z % 26).toNat = Y at *
  have hZ0 : 0 ≤ z % 26 := by omega
  have hZ1 : z % 26 ≤ 25 := by omega
  clear hp0 hp1 hp2 hX1 hY1
  obtain ⟨d, hd⟩ : ∃ d : Nat, (d : Int) = k % 4 := ⟨(k % 4).toNat, by omega⟩
  obtain ⟨q, hq⟩ : ∃ q : Nat, (q : Int) = n % 3 := ⟨(n % 3).toNat, by omega⟩
  have hd3 : d ≤ 3 := by omega
  have hq2 : q ≤ 2 := by omega
  have HD := Lib.hid (fun W => idesc_any X Y (z % 26) (z % 26 + d) (z % 26 + d + q) d (q + 1) W hZ0 hZ1 (by omega) (by omega) (by omega) (by omega) hX0 hX2 hY0 hY2)
  have HM := Lib.hid (allL_mem X Y (z % 26) d (q + 1))
  have HN := Lib.hid (allL_nodup X Y (z % 26) d (q + 1))
  have HL := Lib.hid (allL_many X Y (z % 26) d (q + 1))
  have HL2 := Lib.hid (allL_len X Y (z % 26) d (q + 1) (by omega))
  generalize allL X Y (z % 26) d (q + 1) = ts at *
  replace hd := hd.symm; replace hq := hq.symm
  have hmk := @run_makeMap Try.prog
  go_enter Try.func11, Try.ntmps11
  go_wp2_with (go_at_call 14; refine (HS.out _).mono ?_; rintro e w1 ⟨rfl, hb⟩)
  refine (HD.out _).mono ?_
  rintro e w2 ⟨g, cap, rfl, hr, hb2⟩
  obtain ⟨c2, f2, s2⟩ := new3 hb2
  have HR := Lib.hid hr; clear hr
  go_wp2_with fail
  have hF2 := Lib.hid (show Ext w w2 from (hb.alloc _).trans hb2)
  go_loopg [15, 16] (q + 1) (fun r a i wr => ∃ j : Nat, r + j = q + 1 ∧ i = .int .i64 (d + j : Nat) ∧ a = .int .i64 (manyN d j : Nat) ∧ wr = w2)
  case atStart => exact ⟨0, by omega, by go_num, by simp [manyN], rfl⟩
  case round =>
    obtain ⟨j, hj, rfl, rfl, rfl⟩ := hrel
    obtain ⟨hM0, hM1⟩ : manyN d j ≤ 8192 ∧ manyN d (j + 1) = manyN d j + 2 ^ (2 * (d + j)) := by
      refine ⟨?_, rfl⟩
      have h1 := allL_many 0 0 0 d j
      have h2 := allL_len 0 0 0 d j (by omega)
      omega
    by_cases hlt : j < q + 1
    · have hM2 : manyN d (j + 1) ≤ 8192 := by
        have h1 := allL_many 0 0 0 d (j + 1)
        have h2 := allL_len 0 0 0 d (j + 1) (by omega)
        omega
      have hPI : ((2 ^ (2 * (d + j)) : Nat) : Int) = (2 : Int) ^ (2 * (d + j)) := by simp
      have hP0 : 0 ≤ (2 : Int) ^ (2 * (d + j)) := Int.le_of_lt (pow_bd _ (by omega)).1
      have hPB : (2 : Int) ^ (2 * (d + j)) ≤ 8192 := by omega
      have hl : decide (((d + j : Nat) : Int) ≤ z % 26 + d + q - z % 26) = true := by simp; omega
      have HJ := Lib.hid hj; clear hj
      go_wp2
      go_roundg (gk - 1)
      case measure => have := HJ.out; omega
      case rel => exact ⟨j + 1, by have := HJ.out; omega, by go_num, by rw [hM1, Int.natCast_add, hPI], rfl⟩
    · obtain rfl : j = q + 1 := by omega
      have hl : decide (((d + (q + 1) : Nat) : Int) ≤ z % 26 + d + q - z % 26) = false := by simp; omega
      rw [← HL.out] at hM0 ⊢
      have := HL2.out
      go_wp2
      obtain ⟨wa, rfl⟩ : ∃ wa : World, wa = wr := ⟨_, rfl⟩
      have HR2 := Lib.hid HR.out.some
      go_loopg [64] ts.length (fun r i wr => ∃ j : Nat, r + j = ts.length ∧ i = .int .i64 j ∧ SetAt .i64 wr wa.heap.size ((ts.take j).map fun u => (u, true)) ∧ Ext wa wr)
      case atStart => exact ⟨0, by omega, rfl, blk_new wa (.map #[] 0), (Ext.refl _).alloc _⟩
      case round =>
        obtain ⟨j, hj, rfl, hset, hx⟩ := hrel
        have HSET := Lib.hid hset; clear hset
        by_cases hlt : j < ts.length
        · have hl : decide ((j : Int) < ts.length) = true := by simp; omega
          obtain ⟨⟨a, b, c⟩, ht⟩ : ∃ t, ts[j]? = some t := ⟨ts[j], List.getElem?_eq_getElem hlt⟩
          obtain ⟨C1, C2, C3⟩ := HR2.out.2.2.2 j (a, b, c) ht
          replace C1 := hx.cell C1; replace C2 := hx.cell C2; replace C3 := hx.cell C3
          simp only [Nat.zero_add] at C1 C2 C3
          obtain ⟨e, he0, he1, hx2, hx3, hy2, hy3, hz2⟩ := (HM.out (a, b, c)).1 (List.mem_of_getElem? ht)
          dsimp only at hx2 hx3 hy2 hy3 hz2
          subst hz2
          have HT := Lib.hid ht
          have hnot := Lib.hid (show (a, b, z % 26 + (e : Int)) ∉ ts.take j from fun hm => by
            obtain ⟨i, hi, h⟩ := List.mem_iff_getElem.1 hm
            rw [List.length_take] at hi
            rw [List.getElem_take] at h
            have h1 := (List.getElem?_eq_some_iff.1 ht).2
            exact List.pairwise_iff_getElem.1 HN.out i j (by omega) (by omega) (by omega) (h.trans h1.symm))
          have hp := pow_bd e (by omega)
          have hp32 : (2 : Int) ^ e ≤ 32 := by
            have : (2 : Int) ^ e ≤ 2 ^ 5 := by exact_mod_cast Nat.pow_le_pow_right (by omega) (by omega)
            omega
          have b1 : (X + 1) * 2 ^ e ≤ (X + 1) * 32 := Int.mul_le_mul_of_nonneg_left hp32 (by omega)
          have b2 : (Y + 1) * 2 ^ e ≤ (Y + 1) * 32 := Int.mul_le_mul_of_nonneg_left hp32 (by omega)
          rw [Int.add_mul, Int.one_mul] at b1 b2
          have q1 := Int.mul_nonneg hX0 (Int.le_of_lt hp.1)
          have q2 := Int.mul_nonneg hY0 (Int.le_of_lt hp.1)
          have hda : a / 2 ^ e = X := by
            rw [show a = (a - X * 2 ^ e) + X * 2 ^ e by omega, Int.add_mul_ediv_right _ _ (by omega), Int.ediv_eq_zero_of_lt (by omega) (by omega), Int.zero_add]
          have hdb : b / 2 ^ e = Y := by
            rw [show b = (b - Y * 2 ^ e) + Y * 2 ^ e by omega, Int.add_mul_ediv_right _ _ (by omega), Int.ediv_eq_zero_of_lt (by omega) (by omega), Int.zero_add]
          have ho := fun W => over_any a b (z % 26 + e) (z % 26) W hZ0 (by omega) (by omega) (by omega) (by omega) (by omega) (by omega)
          rw [show (z % 26 + (e : Int) - z % 26).toNat = e by omega, hda, hdb] at ho
          have HO := Lib.hid ho; clear ho
          have hA : 0 ≤ a := by omega
          have d1 : decide (z % 26 + (e : Int) < z % 26 + d) = false := by simp; omega
          have d2 : decide (z % 26 + (e : Int) > z % 26 + d + q) = false := by simp; omega
          have d3 : decide (z % 26 + d + q < z % 26 + (e : Int)) = false := by simp; omega
          have d4 : decide (e < d) = false := by simp; omega
          have d5 : decide (d + q < e) = false := by simp; omega
          have d6 : decide ((e : Int) < d) = false := by simp; omega
          have d7 : decide ((d : Int) + q < e) = false := by simp; omega
          have d8 : decide (z % 26 + (e : Int) < z % 26 + d) = false := by simp; omega
          clear hda hdb hx2 hx3 hy2 hy3 b1 b2 q1 q2 hp hp32
          have HJ := Lib.hid hj; clear hj
          have het := eq_tile
          go_wp2
          have B1 := Ext.blk (hx.alloc (.cells #[.int .i64 a, .int .i64 b, .int .i64 (z % 26 + e)] 25)) (Ext.blk hb2 (blk_new w1 (.cells #[.int .i64 X, .int .i64 Y, .int .i64 (z % 26)] 25)))
          have B2 := blk_new wr (.cells #[.int .i64 a, .int .i64 b, .int .i64 (z % 26 + e)] 25)
          have B3 : SetAt .i64 (wr.alloc (.cells #[.int .i64 a, .int .i64 b, .int .i64 (z % 26 + e)] 25)) wa.heap.size ((ts.take j).map fun u => (u, true)) := blk_old HSET.out _
          have HX := hx.alloc (.cells #[.int .i64 a, .int .i64 b, .int .i64 (z % 26 + e)] 25)
          generalize wr.alloc (.cells #[.int .i64 a, .int .i64 b, .int .i64 (z % 26 + e)] 25) = wb at B1 B2 B3 HX ⊢
          refine region_ext (by kernel_rfl) (by kernel_rfl) (fun hc => ?_)
          have L1 := fun l : Later wb => cell_of_blk (Ext.blk l.h B1)
          have L2 := fun l : Later wb => cell_of_blk (Ext.blk l.h B2)
          have hlook : ∀ l : Later wb, (Instr.lookup 42 (.map (some wa.heap.size)) (.agg #[.int .i64 a, .int .i64 b, .int .i64 (z % 26 + e)]) false).run Try.prog l.w = .ok (.bool false) l.w := fun l => by
            have h := run_lookup key_tile (M := 42) Try.underlying42 zero_bool l.w wa.heap.size _ (Ext.setAt l.h B3) a b (z % 26 + e)
            rw [get_all] at h
            simpa [hnot.out] using h
          repeat (go_big_quiet_step ((go_at_call 17; exact Calls.later (HO.out _))))
          refine wpQuiet_nil ?_
          rintro w3 ⟨⟨_, hw3⟩, rfl⟩
          have L3 := cell_of_blk (Ext.blk hw3 B2)
          have B4 := Ext.setAt hw3 B3
          have hup := run_update key_tile (M := 42) Try.underlying42 w3 wa.heap.size _ B4 a b (z % 26 + e) true
          rw [put_all _ _ hnot.out] at hup
          obtain ⟨L, hL⟩ : ∃ L, ((ts.take j ++ [(a, b, z % 26 + (e : Int))]).map fun u => (u, true)) = L := ⟨_, rfl⟩
          rw [hL] at hup
          have HL9 := Lib.hid hL; clear hL
          have B5 := setAt_put B4 L
          have HX5 := (HX.trans hw3).putSet (Nat.le_refl _) .i64 L
          unfold putSet at B5 HX5
          go_wp2
          go_roundg (gk - 1)
          case measure => have := HJ.out; omega
          case rel => exact ⟨j + 1, by have := HJ.out; omega, by go_num, by rw [List.take_add_one, HT.out, Option.toList_some, HL9.out]; exact B5, HX5⟩
        · obtain rfl : j = ts.length := by omega
          go_wp2
          go_ret
          exact ⟨rfl, hF2.out.trans hx⟩

end Go.Proofs.Ytcphidhheigcbaa
