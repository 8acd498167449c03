/- The filters that the thin package hands in; playing steps over a plain list. No condition. -/
import Derived.Test.YtmmmknmncdlopaaDoorQuadP
import Derived.Test.YtmmmknmncdlopaaDoorQuadI
namespace Go.Proofs.YtmmmknmncdlopaaDoor
open Go.ChangeShapes Go.WideShapes Go.ChangeAt Go.RowKit
open Go.Proofs.YtmmmknmncdlopaaDoor.F

theorem eq_item (a b c d e f : Int) (w : World) : (Op.equalIn 10000 25 (.agg #[.int .i64 a, .int .i64 b, .int .i64 c]) (.agg #[.int .i64 d, .int .i64 e, .int .i64 f])).run Tryd.prog w = .ok (a == d && (b == e && c == f)) w := by
  simp [go_sem]
  by_cases h1 : a = d <;> by_cases h2 : b = e <;> by_cases h3 : c = f <;> simp [h1, h2, h3]

theorem as_item (v : Value) : ∀ w, (Instr.typeAssert (.iface 25 v) 77 25 false).run Tryd.prog w = .ok v w := fun w => by kernel_rfl
/-- Whether an item's number is even. -/
def evn (x : T3) : Bool := x.2.2 % 2 == 0
theorem fld_n (a b c : Value) : ∀ w, (Instr.field 25 (.agg #[a, b, c]) 2).run Tryd.prog w = .ok c w := fun w => by kernel_rfl
theorem even_any (x : T3) (w : World) : Calls Tryd.prog 38 #[iv (some x)] w fun e w' => e = .returned (.bool (evn x)) ∧ Ext w w' := by
  obtain ⟨a, b, c⟩ := x
  have hE : (c.tmod 2 == 0) = evn (a, b, c) := by
    unfold evn
    rw [Bool.eq_iff_iff, beq_iff_eq, beq_iff_eq]
    show c.tmod 2 = 0 ↔ c % 2 = 0
    rw [← Int.dvd_iff_tmod_eq_zero, ← Int.dvd_iff_emod_eq_zero]
  have HE := Lib.hid hE
  have hw : IntKind.i64.wrap (c.tmod 2) = c.tmod 2 := IntWalk.i64_in _ (by have := Int.tmod_lt_of_pos c (show (0:Int) < 2 by decide); have := Int.lt_tmod_of_pos c (show (0:Int) < 2 by decide); omega)
  have fn := fld_n (.int .i64 a) (.int .i64 b) (.int .i64 c)
  clear hE
  have ai := as_item (.agg #[.int .i64 a, .int .i64 b, .int .i64 c])
  change Calls _ _ #[.iface 25 (.agg #[.int .i64 a, .int .i64 b, .int .i64 c])] _ _
  go_enter Tryd.func38, Tryd.ntmps38
  go_wp2_with fail
  go_ret
  exact ⟨by rw [HE.out]; rfl, Ext.refl _⟩

/-- A step as cells. -/
abbrev S4 := Bool × T3
def stc (s : S4) : Array Value := #[.bool s.1, .int .i64 s.2.1, .int .i64 s.2.2.1, .int .i64 s.2.2.2]
theorem same_any (x : T3) (s : S4) (sb : Nat) (w : World) (h : w.heap[sb]? = some (.cells (stc s) 31 (0, 0))) : Calls Tryd.prog 44 #[iv (some x), pt sb] w fun e w' => e = .returned (.bool (x == s.2)) ∧ Ext w w' := by
  obtain ⟨a, b, c⟩ := x
  obtain ⟨o, d, e, f⟩ := s
  have C := cell_of_blk (show w.heap[sb]? = some (.cells #[.bool o, .int .i64 d, .int .i64 e, .int .i64 f] 31 (0, 0)) from h)
  have L := fun u : Later w => cell_of_blk (Ext.blk u.h (show w.heap[sb]? = some (.cells #[.bool o, .int .i64 d, .int .i64 e, .int .i64 f] 31 (0, 0)) from h))
  have eqi := eq_item a b c d e f
  have ai := as_item (.agg #[.int .i64 a, .int .i64 b, .int .i64 c])
  clear h
  change Calls _ _ #[.iface 25 (.agg #[.int .i64 a, .int .i64 b, .int .i64 c]), pt sb] _ _
  go_enter Tryd.func44, Tryd.ntmps44
  go_wp2_with fail
  refine region_ext (by kernel_rfl) (by kernel_rfl) (fun hc => ?_)
  repeat (go_big_quiet_step (fail))
  refine wpQuiet_nil ?_
  rintro w3 ⟨⟨_, hw3⟩, rfl⟩
  clear L hc C
  go_wp2_with fail
  go_ret
  exact ⟨rfl, hw3⟩

theorem fil_even : Fil (.func (.func 38) #[] #[]) evn (fun _ => True) :=
  .inr (.inl ⟨38, rfl, fun xs w => by kernel_rfl, fun w x _ => even_any x w⟩)
theorem fil_same (s : S4) (sb : Nat) : Fil (.func (.func 44) #[] #[pt sb]) (fun x => x == s.2) (fun w => w.heap[sb]? = some (.cells (stc s) 31 (0, 0))) :=
  .inr (.inr ⟨44, pt sb, rfl, fun xs w => by kernel_rfl, fun w x h => same_any x s sb w h⟩)

/-- Whether an item is in a box. -/
def inb (lo hi x : T3) : Bool := decide (lo.1 ≤ x.1) && (decide (x.1 ≤ hi.1) && (decide (lo.2.1 ≤ x.2.1) && decide (x.2.1 ≤ hi.2.1)))
theorem mulU_iff {a b : Int} : a * U < b * U ↔ a < b := ⟨lt_of_mulU, fun h => by
  have h1 : (a + 1) * U ≤ b * U := mulU_le (by omega)
  rw [Int.add_mul] at h1
  have := U_pos
  generalize U = u at *
  omega⟩
theorem inb_out (lo hi x : T3) (h : lo.1.natAbs ≤ 65536 ∧ lo.2.1.natAbs ≤ 65536 ∧ hi.1.natAbs ≤ 65536 ∧ hi.2.1.natAbs ≤ 65536) : outB x (I lo.1, I lo.2.1, I hi.1, I hi.2.1) = !inb lo hi x := by
  unfold outB inb
  simp only [val_I _ h.1, val_I _ h.2.1, val_I _ h.2.2.1, val_I _ h.2.2.2, mulU_iff]
  rw [Bool.eq_iff_iff]
  simp only [Bool.or_eq_true, decide_eq_true_eq, Bool.not_eq_true', Bool.and_eq_false_iff, decide_eq_false_iff_not]
  omega

/-- One step over a plain list: whether it is done, and the list behind it. -/
def pstep (lo hi : T3) (s : S4) (l : List T3) : Bool × List T3 :=
  if s.1 then (l.contains s.2, l.erase s.2) else if inb lo hi s.2 then (true, l ++ [s.2]) else (false, l)
/-- The list behind the first i steps, and which of them were done. -/
def plst (lo hi : T3) (ss : List S4) : Nat → List T3
  | 0 => []
  | i + 1 => match ss[i]? with | some s => (pstep lo hi s (plst lo hi ss i)).2 | none => plst lo hi ss i
def pdon (lo hi : T3) (ss : List S4) : Nat → List Bool
  | 0 => []
  | i + 1 => match ss[i]? with | some s => pdon lo hi ss i ++ [(pstep lo hi s (plst lo hi ss i)).1] | none => pdon lo hi ss i
theorem plst_succ {lo hi : T3} {ss : List S4} {i : Nat} {s : S4} (h : ss[i]? = some s) : plst lo hi ss (i + 1) = (pstep lo hi s (plst lo hi ss i)).2 := by rw [plst, h]
theorem pdon_succ {lo hi : T3} {ss : List S4} {i : Nat} {s : S4} (h : ss[i]? = some s) : pdon lo hi ss (i + 1) = pdon lo hi ss i ++ [(pstep lo hi s (plst lo hi ss i)).1] := by rw [pdon, h]
theorem pdon_len (lo hi : T3) (ss : List S4) : ∀ i, i ≤ ss.length → (pdon lo hi ss i).length = i
  | 0, _ => rfl
  | i + 1, h => by rw [pdon_succ (List.getElem?_eq_getElem (show i < ss.length by omega)), List.length_append, pdon_len lo hi ss i (by omega)]; rfl
theorem plst_len (lo hi : T3) (ss : List S4) : ∀ i, (plst lo hi ss i).length ≤ i
  | 0 => Nat.le_refl _
  | i + 1 => by
    have ih := plst_len lo hi ss i
    rw [plst]
    cases ss[i]? with
    | none => show (plst lo hi ss i).length ≤ i + 1; omega
    | some s =>
      show (pstep lo hi s (plst lo hi ss i)).2.length ≤ i + 1
      unfold pstep
      split
      · have := List.length_erase_le (a := s.2) (l := plst lo hi ss i); show (List.erase _ _).length ≤ _; omega
      · split
        · show (plst lo hi ss i ++ [s.2]).length ≤ _; rw [List.length_append]; simp; omega
        · show (plst lo hi ss i).length ≤ _; omega

/-- Bools as cells. -/
def bls (ds : List Bool) : List Value := ds.map .bool
theorem bls_append (a b : List Bool) : bls (a ++ b) = bls a ++ bls b := List.map_append
theorem bls_len (a : List Bool) : (bls a).length = a.length := List.length_map _
theorem own_keep {w w' : World} {base : Nat} {e : TypeId} {size g cap n : Nat} {xs : List Value} (h : w.ownsRow base e size (.slice (some ⟨g, 0, none⟩) n cap) n xs) (hb : w'.heap[g]? = w.heap[g]?) : w'.ownsRow base e size (.slice (some ⟨g, 0, none⟩) n cap) n xs := by
  refine ⟨h.1, .inr ?_⟩
  rcases h.2 with ⟨h0, _⟩ | ⟨g', cap', cur, h1, h2, h3, h4⟩
  · cases h0
  · cases h1
    exact ⟨g, cap, cur, rfl, h2, hb.trans h3, h4⟩
theorem own_lt {w : World} {base : Nat} {e : TypeId} {size g cap n : Nat} {xs : List Value} (h : w.ownsRow base e size (.slice (some ⟨g, 0, none⟩) n cap) n xs) : base ≤ g ∧ g < w.heap.size := h.lt g rfl

/-- Where steps lie. -/
def StepsAt (w : World) (sg : Nat) (ss : List S4) : Prop := ∃ cur, w.heap[sg]? = some (.cells cur 31 (0, 0)) ∧ ∀ i s, ss[i]? = some s → cur[i * 4]? = some (.bool s.1) ∧ cur[i * 4 + 1]? = some (.int .i64 s.2.1) ∧ cur[i * 4 + 2]? = some (.int .i64 s.2.2.1) ∧ cur[i * 4 + 3]? = some (.int .i64 s.2.2.2)
theorem StepsAt.cells {w : World} {sg : Nat} {ss : List S4} (h : StepsAt w sg ss) {i : Nat} {s : S4} (hs : ss[i]? = some s) : w.cell? ⟨sg, i * 4, none⟩ = some (.bool s.1) ∧ w.cell? ⟨sg, i * 4 + 1, none⟩ = some (.int .i64 s.2.1) ∧ w.cell? ⟨sg, i * 4 + 2, none⟩ = some (.int .i64 s.2.2.1) ∧ w.cell? ⟨sg, i * 4 + 3, none⟩ = some (.int .i64 s.2.2.2) := by
  obtain ⟨cur, hb, hc⟩ := h
  have C := cell_of_blk hb
  obtain ⟨h0, h1, h2, h3⟩ := hc i s hs
  exact ⟨(C _).trans h0, (C _).trans h1, (C _).trans h2, (C _).trans h3⟩
theorem StepsAt.ext {w w' : World} {sg : Nat} {ss : List S4} (h : StepsAt w sg ss) (hx : Ext w w') : StepsAt w' sg ss := by
  obtain ⟨cur, hb, hc⟩ := h
  exact ⟨cur, Ext.blk hx hb, hc⟩

end Go.Proofs.YtmmmknmncdlopaaDoor
