/- The tree of nodes, in plain terms: how it lies in memory, its items, its regions. No condition. -/
import Derived.Test.YtmmmknmncdlopaaDoorQuadA
import Derived.Test.YtmmmknmncdlopaaDoorLists0
namespace Go.Proofs.YtmmmknmncdlopaaDoor
open Go.ChangeShapes Go.WideShapes Go.ChangeAt Go.RowKit
open Go.Proofs.YtmmmknmncdlopaaDoor.F

/-- The value of a float, in units. -/
def val (x : Nat) : Int := match Ieee.double.read x with
  | .number s m p => sgn s (m * 2 ^ (p + 1074).toNat)
  | _ => 0
theorem val_of {x : Nat} {v : Int} (h : IsF x v) : val x = v := by
  obtain ⟨s, m, p, e, _, rfl⟩ := h.read
  unfold val; rw [e]
/-- A finite float that is not too great. -/
def Bd (x : Nat) : Prop := IsF x (val x) ∧ (val x).natAbs ≤ 65536 * U
theorem Bd.of {x : Nat} {v : Int} (h : IsF x v) (hv : v.natAbs ≤ 65536 * U) : Bd x := by
  have := val_of h; exact ⟨this ▸ h, this ▸ hv⟩
theorem val_I (n : Int) (h : n.natAbs ≤ 65536) : val (I n) = n * U := val_of (I_F n (by omega))
theorem bd_I (n : Int) (h : n.natAbs ≤ 65536) : Bd (I n) :=
  Bd.of (I_F n (by omega)) (by rw [natAbs_U]; exact Nat.mul_le_mul_right _ h)
def sumw (x y : Nat) : Nat := (Ieee.double.add x y).getD 0
def midw (x y : Nat) : Nat := (Ieee.double.div (sumw x y) two).getD 0
theorem mid_run {x y : Nat} (hx : Bd x) (hy : Bd y) : (∀ W, (binOp .add 62 (fl x) (fl y)).run Tryd.prog W = .ok (fl (sumw x y)) W) ∧
    (∀ W, (binOp .quo 62 (fl (sumw x y)) (.float .f64 4611686018427387904)).run Tryd.prog W = .ok (fl (midw x y)) W) ∧ Bd (midw x y) := by
  have hU := U_pos
  have hv := hx.2; have hw := hy.2
  have hb : (val x + val y).natAbs ≤ 131072 * U := by
    have := Int.natAbs_add_le (val x) (val y)
    generalize U = u at *
    omega
  obtain ⟨s, q, e1, h1, hk⟩ := add_F hx.1 hy.1 131072 (by omega) hb
  have hq : q.natAbs ≤ 2 * (65536 * U) := by
    have k1 := hk.1 (-131072) (by decide) (by generalize U = u at *; omega)
    have k2 := hk.2 131072 (by decide) (by generalize U = u at *; omega)
    generalize U = u at *
    omega
  obtain ⟨m, z, e2, h2, hz⟩ := half_F h1 65536 (by omega) hq
  have es : sumw x y = s := by unfold sumw; rw [e1]; rfl
  have em : midw x y = m := by unfold midw; rw [es, e2]; rfl
  rw [es, em]
  exact ⟨run_fl .add x y s e1, run_fl .quo s two m e2, Bd.of h2 (hz 65536 (by omega) hq)⟩
theorem ord_val {x y : Nat} (hx : Bd x) (hy : Bd y) : FloatKind.f64.format.order x y = some (compare (val x) (val y)) := ord_fact hx.1 hy.1

/-- An item as an interface value. -/
def iv : Option T3 → Value
  | none => .nilIface
  | some t => .iface 25 (.agg #[.int .i64 t.1, .int .i64 t.2.1, .int .i64 t.2.2])
/-- A tree of nodes: each with its block, its item, its four children. -/
inductive Tr
  | nil
  | node (k : Nat) (v : Option T3) (c0 c1 c2 c3 : Tr)
def ptr : Tr → Value
  | .nil => .pointer none
  | .node k .. => .pointer (some ⟨k, 0, none⟩)
def At (w : World) : Tr → Prop
  | .nil => True
  | .node k v c0 c1 c2 c3 => w.heap[k]? = some (.cells #[iv v, ptr c0, ptr c1, ptr c2, ptr c3] 105 (0, 0)) ∧ At w c0 ∧ At w c1 ∧ At w c2 ∧ At w c3
def bks : Tr → List Nat
  | .nil => []
  | .node k _ c0 c1 c2 c3 => k :: (bks c0 ++ (bks c1 ++ (bks c2 ++ bks c3)))
/-- The items, each with its node's block. -/
def nds : Tr → List (Nat × T3)
  | .nil => []
  | .node k v c0 c1 c2 c3 => (v.toList.map fun x => (k, x)) ++ (nds c0 ++ (nds c1 ++ (nds c2 ++ nds c3)))
def its (t : Tr) : List T3 := (nds t).map (·.2)
theorem its_node (k : Nat) (v : Option T3) (c0 c1 c2 c3 : Tr) : its (.node k v c0 c1 c2 c3) = v.toList ++ (its c0 ++ (its c1 ++ (its c2 ++ its c3))) := by
  simp [its, nds]; cases v <;> simp
theorem At.frame {w w' : World} : ∀ {t : Tr}, At w t → (∀ k ∈ bks t, w'.heap[k]? = w.heap[k]?) → At w' t
  | .nil, _, _ => trivial
  | .node k v c0 c1 c2 c3, h, hk => by
    obtain ⟨h0, h1, h2, h3, h4⟩ := h
    refine ⟨(hk k (by simp [bks])).trans h0, h1.frame fun j hj => hk j ?_, h2.frame fun j hj => hk j ?_, h3.frame fun j hj => hk j ?_, h4.frame fun j hj => hk j ?_⟩ <;> simp [bks, hj]
theorem At.lt {w : World} : ∀ {t : Tr}, At w t → ∀ k ∈ bks t, k < w.heap.size
  | .nil, _, _, hk => by simp [bks] at hk
  | .node k v c0 c1 c2 c3, h, j, hj => by
    obtain ⟨h0, h1, h2, h3, h4⟩ := h
    simp only [bks, List.mem_cons, List.mem_append] at hj
    rcases hj with rfl | hj | hj | hj | hj
    · exact (Array.getElem?_eq_some_iff.1 h0).1
    · exact h1.lt j hj
    · exact h2.lt j hj
    · exact h3.lt j hj
    · exact h4.lt j hj
theorem At.ext {w w' : World} {t : Tr} (h : At w t) (hx : Ext w w') : At w' t := h.frame fun k hk => hx.block k (h.lt k hk)

/-- An item lies in a region. -/
def Inr (x : T3) (l r b t : Nat) : Prop := val l ≤ x.1 * U ∧ x.1 * U ≤ val r ∧ val b ≤ x.2.1 * U ∧ x.2.1 * U ≤ val t
/-- Each node's items lie in its region. -/
def Reg : Tr → Nat → Nat → Nat → Nat → Prop
  | .nil, _, _, _, _ => True
  | .node k v c0 c1 c2 c3, l, r, b, t => (∀ x ∈ its (.node k v c0 c1 c2 c3), Inr x l r b t) ∧ Reg c0 l (midw l r) (midw b t) t ∧ Reg c1 (midw l r) r (midw b t) t ∧ Reg c2 l (midw l r) b (midw b t) ∧ Reg c3 (midw l r) r b (midw b t)
/-- An item's coordinates are small. -/
def Sm (x : T3) : Prop := x.1.natAbs ≤ 32768 ∧ x.2.1.natAbs ≤ 32768

/-- Nothing that was there has turned but the blocks of a list. -/
structure Mod (S : List Nat) (W w : World) : Prop where
  os : w.os = W.os
  tape : w.tape = W.tape
  output : w.output = W.output
  size : W.heap.size ≤ w.heap.size
  block : ∀ k, k < W.heap.size → k ∉ S → w.heap[k]? = W.heap[k]?
theorem Mod.of_ext {S : List Nat} {W w : World} (h : Ext W w) : Mod S W w := ⟨h.os, h.tape, h.output, h.size, fun k hk _ => h.block k hk⟩
theorem Mod.trans {S : List Nat} {a b c : World} (h : Mod S a b) (k : Mod S b c) : Mod S a c :=
  ⟨k.os.trans h.os, k.tape.trans h.tape, k.output.trans h.output, Nat.le_trans h.size k.size, fun j hj hs => (k.block j (Nat.lt_of_lt_of_le hj h.size) hs).trans (h.block j hj hs)⟩
theorem Mod.mono {S T : List Nat} {a b : World} (h : Mod S a b) (hs : ∀ k ∈ S, k ∈ T) : Mod T a b := ⟨h.os, h.tape, h.output, h.size, fun j hj ht => h.block j hj fun hm => ht (hs j hm)⟩
theorem Mod.set {S : List Nat} {W : World} (p : Addr) (v : Value) (h : p.block ∈ S) : Mod S W (W.setCell p v) :=
  ⟨rfl, rfl, rfl, by rw [size_setCell]; exact Nat.le_refl _, fun k _ hk => by
    have : k ≠ p.block := fun e => hk (e ▸ h)
    simp [World.setCell, Array.getElem?_modify, Ne.symm this]⟩
theorem Mod.below {S : List Nat} {W w : World} {B : Nat} (h : Mod S W w) (hB : B ≤ W.heap.size) (hs : ∀ k ∈ S, B ≤ k) : Below B W w :=
  ⟨h.os, h.tape, h.output, h.size, fun k hk => h.block k (by omega) fun hm => by have := hs k hm; omega⟩

end Go.Proofs.YtmmmknmncdlopaaDoor
