/- FnExactNearestWithin holds: the statement out of the walk of the Go text. No condition. (The frame after the kit's worked shell for a slice of integers and integers.) -/
import Derived.Test.YtmmmknmncdlopaaDoorRows
import Derived.WalkKit
import Derived.ProofKit
import Derived.OpenShut
import Derived.ChangeOld
import Derived.Below
import Derived.Test.YtmmmknmncdlopaaDoorTie
import Derived.Test.YtmmmknmncdlopaaDoorCards
import Derived.Test.YtmmmknmncdlopaaDoorLaid
import Derived.Test.YtmmmknmncdlopaaDoorLawWith
namespace Go.Proofs.YtmmmknmncdlopaaDoor.fnExactNearestWithin
open Go.ChangeShapes Go.WideShapes Go.ChangeAt Go.RowKit
set_option linter.unusedVariables false

/-- A slice of integers that came in: nil, or a row of cells, each within its kind. -/
def IsRow (k : IntKind) (w : World) (a : Option Addr) (len cap : Nat) (zs : List Int) : Prop :=
  (a = none ∧ len = 0 ∧ cap = 0 ∧ zs = []) ∨
  ∃ x, a = some x ∧ len ≤ cap ∧ cap ≤ maxLen ∧ zs.length = cap ∧ (∀ i, i < zs.length → w.cell? (x.add i) = some (.int k (zs.getD i 0))) ∧ ∀ n ∈ zs, (Lit.int k n).wf = true

theorem walk (a0 : Int) (a1 : Int) (a2 : Int) (a3 : Int) (a4 : Option Addr) (len4 cap4 : Nat) (z4 : List Int) (a5 : Int) (a6 : Int) (a7 : Int) (a8 : Int) (w : World) (w0 : (Lit.int .i16 a0).wf = true) (w1 : (Lit.int .i16 a1).wf = true) (w2 : (Lit.int .i16 a2).wf = true) (w3 : (Lit.int .i16 a3).wf = true) (w4 : IsRow .i16 w a4 len4 cap4 z4) (w5 : (Lit.int .i16 a5).wf = true) (w6 : (Lit.int .i16 a6).wf = true) (w7 : (Lit.int .u8 a7).wf = true) (w8 : (Lit.int .u16 a8).wf = true) (ea : Addr) (herr : w.cell? ⟨0, 0, none⟩ = some (.iface 128 (.pointer (some ea)))) :
    Calls Tryd.prog 5 #[.int .i16 a0, .int .i16 a1, .int .i16 a2, .int .i16 a3, .slice a4 len4 cap4, .int .i16 a5, .int .i16 a6, .int .u8 a7, .int .u16 a8] w fun e w' => e = .returned (.bool true) ∧ Below w.heap.size w w' := by
  have b0 := bounds_i16 w0
  have b1 := bounds_i16 w1
  have b2 := bounds_i16 w2
  have b3 := bounds_i16 w3
  obtain ⟨l4, hl4, hb4⟩ : ∃ l, len4 = l.length ∧ Shorts w (.slice a4 l.length cap4) l := by
    rcases w4 with ⟨rfl, rfl, rfl, rfl⟩ | ⟨x, rfl, h1, h2, h3, h4, h5⟩
    · exact ⟨[], rfl, _, _, rfl, Nat.le_refl _, by simp, fun h => absurd rfl h⟩
    · refine ⟨z4.take len4, by simp; omega, _, _, rfl, by simp; omega, h2, fun hne => ?_⟩
      have h0 : 0 < z4.length := by
        rcases Nat.eq_zero_or_pos z4.length with e | e
        · exact absurd (by rw [List.eq_nil_of_length_eq_zero e]; simp) hne
        · exact e
      obtain ⟨b, off, spot⟩ := x
      have hs := h4 0 h0
      have hspot : spot = none := by simpa [Addr.add] using World.cell?_spot hs
      subst hspot
      refine ⟨b, off, rfl, fun i x hx => ?_⟩
      have hi : i < len4 := by have := (List.getElem?_eq_some_iff.1 hx).1; simp at this; omega
      have hg : z4[i]? = some x := by rw [List.getElem?_take] at hx; simpa [hi] using hx
      have hgd : z4.getD i 0 = x := by simp [List.getD, hg]
      have hc := h4 i (List.getElem?_eq_some_iff.1 hg).1
      have hadd : (⟨b, off, none⟩ : Addr).add i = ⟨b, off + i, none⟩ := by unfold Addr.add; split <;> simp_all
      rw [hgd, hadd] at hc
      have hw := bounds_i16 (h5 x (List.mem_of_getElem? hg))
      exact ⟨hc, hw.1, hw.2⟩
  subst hl4
  have b5 := bounds_i16 w5
  have b6 := bounds_i16 w6
  have b7 := bounds_u8 w7
  have b8 := bounds_u16 w8
  exact within_law a0 a1 a2 a3 _ l4 a5 a6 a7 a8 w ea (by first | exact b0 | (have := b0; omega)) (by first | exact b1 | (have := b1; omega)) (by first | exact b2 | (have := b2; omega)) (by first | exact b3 | (have := b3; omega)) hb4 (by first | exact b5 | (have := b5; omega)) (by first | exact b6 | (have := b6; omega)) (by first | exact b7 | (have := b7; omega)) (by first | exact b8 | (have := b8; omega)) herr

/-! ### The row's step -/
set_option maxRecDepth 100000 in
theorem lifted (os : Os) (started : os.Started) (H : Type) (enc : TypeId × Value → H) :
    ReturnsInHanded {} Tryd.checked os 5 .any (fun w args => (Rows.fnExactNearestWithinSpec.pre enc Tryd.prog Tryd.f5 [] false w args ∧ laidMetH Tryd.prog laidE w) ∧ sizedMet enc Tryd.prog Tryd.f5 (OpenSpec.ofChange Rows.fnExactNearestWithinSpec) false w args)
      (Rows.fnExactNearestWithinSpec.post enc Tryd.prog Tryd.f5 false true false false) := by
  refine returnsInHanded_of_change_and (C := Tryd.checked) (X := fun w _ => laidMetH Tryd.prog laidE w) (fun _ _ _ hh h => h.of_heap hh) ownKn started (by kernel_rfl) Tryd.func5
    (ChangeSpec.witness_shaped (enc := enc) (C := Tryd.checked) (os := os) (X := fun w _ => laidMetH Tryd.prog laidE w) false (World.doorLaid Tryd.prog 400 os) #[.int .i16 0, .int .i16 0, .int .i16 0, .int .i16 0, .slice none 0 0, .int .i16 0, .int .i16 0, .int .u8 0, .int .u16 0] 8 rfl (World.shaped_of_RefB (by kernel_rfl) (by kernel_rfl)) (by kernel_rfl) (by kernel_rfl) (by kernel_rfl) (door_met os _)) ?_
  intro W base args ds gs before hval0 hW _ _ hL _
  have hval : ∀ (j : Nat) t v, Tryd.f5.params[j]? = some t → args[j]? = some v → Value.okWide Tryd.prog W .any base t v := hval0
  have hW' := hW
  obtain ⟨p, q, hA0, hV0, rfl, hfz, hnd⟩ := hW
  have hA : DataW.TrodAll enc Tryd.prog W 0 (fun _ => true) true Tryd.f5.params.toList args.toList ds p := hA0
  have hV : DataW.TrodVars enc Tryd.prog W (fun _ => true) [errName] gs q := hV0
  obtain ⟨ea, hvar⟩ := err_of_laid hL
  obtain ⟨rfl, rfl⟩ := hV.unique (var_read enc hvar trivial _)
  rw [Tryd.params5] at hA hval
  obtain ⟨v0, vs0, d0, ds0, p0, q0, hargs, rfl, rfl, h0, r0⟩ := trodAll_cons hA
  obtain ⟨v1, vs1, d1, ds1, p1, q1, rfl, rfl, rfl, h1, r1⟩ := trodAll_cons r0
  obtain ⟨v2, vs2, d2, ds2, p2, q2, rfl, rfl, rfl, h2, r2⟩ := trodAll_cons r1
  obtain ⟨v3, vs3, d3, ds3, p3, q3, rfl, rfl, rfl, h3, r3⟩ := trodAll_cons r2
  obtain ⟨v4, vs4, d4, ds4, p4, q4, rfl, rfl, rfl, h4, r4⟩ := trodAll_cons r3
  obtain ⟨v5, vs5, d5, ds5, p5, q5, rfl, rfl, rfl, h5, r5⟩ := trodAll_cons r4
  obtain ⟨v6, vs6, d6, ds6, p6, q6, rfl, rfl, rfl, h6, r6⟩ := trodAll_cons r5
  obtain ⟨v7, vs7, d7, ds7, p7, q7, rfl, rfl, rfl, h7, r7⟩ := trodAll_cons r6
  obtain ⟨v8, vs8, d8, ds8, p8, q8, rfl, rfl, rfl, h8, r8⟩ := trodAll_cons r7
  obtain ⟨rfl, rfl, rfl⟩ := trodAll_nil r8
  obtain rfl : args = #[v0, v1, v2, v3, v4, v5, v6, v7, v8] := by cases args; simp_all
  obtain ⟨a0, rfl, rfl, rfl, w0⟩ := open_int Tryd.underlying22 (hval 0 22 v0 rfl rfl) h0
  obtain ⟨a1, rfl, rfl, rfl, w1⟩ := open_int Tryd.underlying22 (hval 1 22 v1 rfl rfl) h1
  obtain ⟨a2, rfl, rfl, rfl, w2⟩ := open_int Tryd.underlying22 (hval 2 22 v2 rfl rfl) h2
  obtain ⟨a3, rfl, rfl, rfl, w3⟩ := open_int Tryd.underlying22 (hval 3 22 v3 rfl rfl) h3
  obtain ⟨a4, len4, cap4, rfl⟩ := okWide_slice Tryd.underlying23 (hval 4 23 v4 rfl rfl)
  have k4 := h4
  have lt4 : ∀ x ∈ p4, x.block < W.heap.size := by obtain ⟨m, hm⟩ := k4; exact DataW.trod_lt m _ _ _ hm
  obtain ⟨z4, w4⟩ : ∃ zs, IsRow .i16 W a4 len4 cap4 zs := by
    obtain ⟨fuel, hf⟩ := h4
    rcases open_ints Tryd.underlying23 Tryd.underlying22 (by kernel_rfl) hf with ⟨hcs, _⟩ | ⟨x, l, c, zs, hcs, _, hl, hm, hz, _, hcell, hwz⟩
    · simp [Value.cells] at hcs
      obtain ⟨rfl, rfl, rfl⟩ := hcs
      exact ⟨[], .inl ⟨rfl, rfl, rfl, rfl⟩⟩
    · simp [Value.cells] at hcs
      obtain ⟨rfl, rfl, rfl⟩ := hcs
      exact ⟨zs, .inr ⟨_, rfl, hl, hm, by simpa using hz, hcell, hwz⟩⟩
  obtain ⟨a5, rfl, rfl, rfl, w5⟩ := open_int Tryd.underlying22 (hval 5 22 v5 rfl rfl) h5
  obtain ⟨a6, rfl, rfl, rfl, w6⟩ := open_int Tryd.underlying22 (hval 6 22 v6 rfl rfl) h6
  obtain ⟨a7, rfl, rfl, rfl, w7⟩ := open_int Tryd.underlying5 (hval 7 5 v7 rfl rfl) h7
  obtain ⟨a8, rfl, rfl, rfl, w8⟩ := open_int Tryd.underlying47 (hval 8 47 v8 rfl rfl) h8
  clear hA0 hV0 hval0
  refine (walk a0 a1 a2 a3 a4 len4 cap4 z4 a5 a6 a7 a8 W w0 w1 w2 w3 w4 w5 w6 w7 w8 ea (err_cell hvar)).mono fun e W' ⟨he, bel⟩ => ?_
  subst he
  exact ⟨_, rfl, _, _, _, [], _, [.cell 0 0], hW', trodAll_mk1 (shut_bool Tryd.underlying4 _), (trodAll_cons_mk (shut_int Tryd.underlying22 w0) (trodAll_cons_mk (shut_int Tryd.underlying22 w1) (trodAll_cons_mk (shut_int Tryd.underlying22 w2) (trodAll_cons_mk (shut_int Tryd.underlying22 w3) (trodAll_cons_mk (Below.trod laidOut (by kernel_rfl) (of_decide_eq_true (by kernel_rfl)) k4 bel lt4) (trodAll_cons_mk (shut_int Tryd.underlying22 w5) (trodAll_cons_mk (shut_int Tryd.underlying22 w6) (trodAll_cons_mk (shut_int Tryd.underlying5 w7) (trodAll_cons_mk (shut_int Tryd.underlying47 w8) trodAll_mk0))))))))), var_read enc (var_below bel hvar) trivial _, bel.frame _, fun h => by cases h⟩

theorem over : Rows.FnExactNearestWithinSaid :=
  OpenClaim.holds_of_wide 5 Tryd.f5 rfl rfl rfl rfl rfl rfl rfl ⟨rfl, rfl, rfl, rfl, rfl⟩ rfl rfl rfl rfl rfl (by kernel_rfl) Tryd.func5 (by kernel_rfl)
    (of_decide_eq_true (by kernel_rfl)) (by unfold Func.isWrapper; first | (rw [if_pos (by decide +kernel)]; kernel_rfl) | (rw [if_neg (by decide +kernel)]; exact ⟨rfl, rfl⟩))
    (fun os started H enc _ => lifted os started H enc)

/-- The statement: the tied card. -/
theorem proved : Rows.FnExactNearestWithinCardSaid :=
  Claim7.holds_tied_plain_at .later [] [.sentinel] true (true, "a6de6644b13d6c74b6af1ec581d0c9d6459344a1f5a6fd64e10b612c570faa82") true
    over (fun _ h => by cases h) (by kernel_rfl) (fun _ h => by cases h) fnExactNearestWithin_row_tie rfl ⟨rfl, rfl⟩ (by kernel_rfl) rfl
    (fun f fn hf hfn => by
      obtain rfl : f = 5 := Option.some.inj ((show Tryd.prog.funcNamed "loop.example/pub-quadtiles/laws.FnExactNearestWithin" = some 5 by kernel_rfl).symm.trans hf) |>.symm
      obtain rfl : fn = Tryd.f5 := (Option.some.inj (Tryd.func5.symm.trans hfn)).symm
      exact ⟨by kernel_rfl, fun j t ht => by
        rw [Tryd.params5] at ht
        have hm : t ∈ [22, 22, 22, 22, 23, 22, 22, 5, 47] := by simpa using Array.mem_of_getElem? ht
        have hall : ([22, 22, 22, 22, 23, 22, 22, 5, 47].all fun u => !Tryd.prog.wantsStandIn u) = true := by kernel_rfl
        exact (show Tryd.prog.wantsStandIn t = false by simpa using List.all_eq_true.1 hall t hm)⟩)
    (by kernel_rfl)
#print axioms proved
end Go.Proofs.YtmmmknmncdlopaaDoor.fnExactNearestWithin
