/- spec.Same of lists that have the same items. Conditions: no more than 65536 items. -/
import Derived.Test.YtmmmknmncdlopaaDoorSpecE
namespace Go.Proofs.YtmmmknmncdlopaaDoor
open Go.ChangeShapes Go.WideShapes Go.ChangeAt Go.RowKit
open Go.Proofs.YtmmmknmncdlopaaDoor.F

set_option maxRecDepth 8000 in
set_option maxHeartbeats 6400000 in
theorem perm_any (us vs : List T3) (b1 g1 c1 b2 g2 c2 : Nat) (w : World) (h1 : OwnI w b1 g1 c1 us) (h2 : OwnI w b2 g2 c2 vs) (hl : us.length ≤ 65536) (hp : us.Perm vs) :
    Calls Tryd.prog 13 #[.slice (some ⟨g1, 0, none⟩) us.length c1, .slice (some ⟨g2, 0, none⟩) vs.length c2] w fun e w' => e = .returned (.bool true) ∧ Ext w w' := by
  have HLEN := Lib.hid hp.length_eq
  have dn : ((us.length : Int) != (vs.length : Int)) = false := by simp [hp.length_eq]
  have H1 := Lib.hid h1; have H2 := Lib.hid (show OwnI w b2 g2 c2 vs from h2); have HP := Lib.hid hp
  clear h1 h2 hp
  have S1 := Lib.hid (sorted_some us b1 g1 c1 w H1.out hl)
  go_enter Tryd.func13, Tryd.ntmps13
  go_wp2_with fail
  refine S1.out.mono ?_
  rintro e w3 ⟨g3, c3, L, rfl, ho3, hp3, hord3, hx3⟩
  have O3 := Lib.hid ho3; have P3 := Lib.hid hp3; have R3 := Lib.hid hord3; have X3 := Lib.hid hx3
  clear ho3 hp3 hord3 hx3 S1
  have S2 := Lib.hid (sorted_some vs b2 g2 c2 w3 (kept_ext X3.out H2.out) (by have := HLEN.out; omega))
  go_wp2_with fail
  refine S2.out.mono ?_
  rintro e w4 ⟨g4, c4, M, rfl, ho4, hp4, hord4, hx4⟩
  have hML : M = L := ord_unique lt3_anti hord4 R3.out (hp4.trans (HP.out.symm.trans P3.out.symm))
  subst hML
  have O4 := Lib.hid ho4; have O3' := Lib.hid (kept_ext hx4 O3.out); have X4 := Lib.hid (X3.out.trans hx4)
  have HLL := Lib.hid P3.out.length_eq
  clear ho4 hp4 hord4 hx4 S2 X3
  go_wp2_with fail
  go_loopg [19] us.length (fun r iv wr => ∃ (i : Nat), r + i = us.length ∧ iv = .int .i64 (i : Nat) ∧ Ext w4 wr)
  case atStart => exact ⟨0, by omega, rfl, Ext.refl _⟩
  case round =>
    obtain ⟨i, hR, rfl, hx⟩ := hrel
    have HX := Lib.hid hx; clear hx
    by_cases hlt : i < us.length
    · obtain ⟨x, hxu⟩ : ∃ x, M[i]? = some x := ⟨_, List.getElem?_eq_getElem (by have := HLL.out; omega)⟩
      obtain ⟨d0, d1, d2⟩ := ownN_cells (kept_ext HX.out O3'.out) hxu
      obtain ⟨e0, e1, e2⟩ := ownN_cells (kept_ext HX.out O4.out) hxu
      have L0 := fun e : Later wr => e.h.cell d0
      have L1 := fun e : Later wr => e.h.cell d1
      have L2 := fun e : Later wr => e.h.cell d2
      have L3 := fun e : Later wr => e.h.cell e0
      have L4 := fun e : Later wr => e.h.cell e1
      have L5 := fun e : Later wr => e.h.cell e2
      have eqx : ∀ W, (Op.equalIn 10000 25 (.agg #[.int .i64 x.1, .int .i64 x.2.1, .int .i64 x.2.2]) (.agg #[.int .i64 x.1, .int .i64 x.2.1, .int .i64 x.2.2])).run Tryd.prog W = .ok true W := fun W => by rw [eq_item]; simp
      clear hxu d0 d1 d2 e0 e1 e2
      have hiv : i < vs.length := by have := HLEN.out; omega
      go_wp2_with fail
      refine region_ext (by kernel_rfl) (by kernel_rfl) (fun hc => ?_)
      repeat (go_big_quiet_step (fail))
      refine wpQuiet_nil ?_
      rintro w5 ⟨⟨_, hw5⟩, rfl⟩
      clear L0 L1 L2 L3 L4 L5 hc eqx
      go_wp2
      go_roundg (gk - 1)
      case measure => omega
      case rel => exact ⟨i + 1, by omega, by go_num, HX.out.trans hw5⟩
    · have FIN := Lib.hid (X4.out.trans HX.out)
      go_wp2
      exact bodyPost_ret (v := .bool true) (by simp [results, Tryd.results13, go_sem]) rfl ⟨rfl, FIN.out⟩

end Go.Proofs.YtmmmknmncdlopaaDoor
