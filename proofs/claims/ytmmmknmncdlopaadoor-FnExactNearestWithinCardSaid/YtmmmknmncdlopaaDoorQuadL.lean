/- The visitor of Find meets the contract of a visitor. -/
import Derived.Test.YtmmmknmncdlopaaDoorQuadK
namespace Go.Proofs.YtmmmknmncdlopaaDoor
open Go.ChangeShapes Go.WideShapes Go.ChangeAt Go.RowKit
open Go.Proofs.YtmmmknmncdlopaaDoor.F

theorem fin_vis {a v kb B : Nat} (N : Nat) {x y : Int} {fv : Value} {f : T3 → Bool} {Q : World → Prop} {b0 : B4} (hx : x.natAbs ≤ 65536) (hy : y.natAbs ≤ 65536) (hF : Fil fv f Q) (hQ : ∀ w w', Q w → Below B w w' → Q w') (hd : B ≤ a ∧ B ≤ kb ∧ a ≠ kb ∧ v ≠ a ∧ v ≠ kb) :
    Vis 96 100 101 102 a v kb B N (fun w L => ∃ c m b, FinP a v kb B x y fv f Q b0 w L c m b) where
  nB := fin_nB a
  nP := fin_nP a
  nV := fin_nV a
  mB := fin_mB a
  mP := fin_mP a
  mV := fin_mV a
  eB := fin_eB
  eP := fin_eP
  eV := fin_eV
  vis := fun ⟨_, _, _, h⟩ => h.hv
  box := fun ⟨c, m, b, h⟩ => ⟨b.1, b.2.1, b.2.2.1, b.2.2.2, h.fin.1, h.fin.2.1, h.fin.2.2.1, h.fin.2.2.2, h.hk, fun n hn => ⟨c, m, b, h.with (h.inv.box n hn)⟩⟩
  size := fun ⟨_, _, _, h⟩ => h.size
  perm := fun ⟨c, m, b, h⟩ hp => ⟨c, m, b, h.with (h.inv.perm hp)⟩
  ext := fun ⟨c, m, b, h⟩ hx => ⟨c, m, b, h.ext hQ hx⟩
  bound := fun ⟨_, _, _, h⟩ => fin_bound h.ha
  point := ⟨I x, I y, _, _, I_F x (by omega), I_F y (by omega), fun ⟨_, _, _, h⟩ => fin_point h.ha⟩
  visit := fun k p c0 c1 c2 c3 ⟨_, _, _, h⟩ _ hk hn hp => fin_visit hx hy hF hQ hd h k p c0 c1 c2 c3 hk hn hp

end Go.Proofs.YtmmmknmncdlopaaDoor
