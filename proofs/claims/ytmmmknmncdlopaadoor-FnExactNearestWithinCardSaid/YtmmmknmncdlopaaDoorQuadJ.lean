/- The visitor of Find: what it keeps. -/
import Derived.Test.YtmmmknmncdlopaaDoorQuadH
import Derived.Test.YtmmmknmncdlopaaDoorQuadI
import Derived.Deep.Cut
namespace Go.Proofs.YtmmmknmncdlopaaDoor
open Go.ChangeShapes Go.WideShapes Go.ChangeAt Go.RowKit
open Go.Proofs.YtmmmknmncdlopaaDoor.F

/-- A filter: none, or a function of an item. -/
def Fil (fv : Value) (f : T3 → Bool) (Q : World → Prop) : Prop :=
  (fv = .nilFunc ∧ ∀ x, f x = true) ∨
  (∃ F : Nat, fv = .func (.func F) #[] #[] ∧ (∀ xs w, (callFunc F xs).run Tryd.prog w = .ok (.enter F xs) w) ∧ ∀ w x, Q w → Calls Tryd.prog F #[iv (some x)] w fun e w' => e = .returned (.bool (f x)) ∧ Ext w w') ∨
  (∃ (F : Nat) (c : Value), fv = .func (.func F) #[] #[c] ∧ (∀ xs w, (callFunc F xs).run Tryd.prog w = .ok (.enter F xs) w) ∧ ∀ w x, Q w → Calls Tryd.prog F #[iv (some x), c] w fun e w' => e = .returned (.bool (f x)) ∧ Ext w w')

/-- The greatest float. -/
def maxF : Nat := 9218868437227405311
def cp : Option (Nat × T3) → Value
  | none => .pointer none
  | some q => pt q.1
abbrev B4 := Nat × Nat × Nat × Nat
def OutB (p : T3) (b : B4) : Prop := Out p b.1 b.2.1 b.2.2.1 b.2.2.2
/-- What the visitor of Find knows of the nodes L. -/
def FinI (x y : Int) (f : T3 → Bool) (L : List (Nat × T3)) (b0 : B4) (m : Nat) (b : B4) : Option (Nat × T3) → Prop
  | none => m = maxF ∧ b = b0 ∧ ∀ p ∈ L, f p.2 = true → OutB p.2 b0
  | some q => q ∈ L ∧ f q.2 = true ∧ Sm q.2 ∧ m = I (dsq x y q.2) ∧ (∀ p, Sm p → OutB p b → dsq x y q.2 < dsq x y p) ∧ ∀ p ∈ L, f p.2 = true → OutB p.2 b0 ∨ dsq x y q.2 ≤ dsq x y p.2
def FinB (b : B4) : Prop := IsF b.1 (val b.1) ∧ IsF b.2.1 (val b.2.1) ∧ IsF b.2.2.1 (val b.2.2.1) ∧ IsF b.2.2.2 (val b.2.2.2)
structure FinP (a v kb B : Nat) (x y : Int) (fv : Value) (f : T3 → Bool) (Q : World → Prop) (b0 : B4) (w : World) (L : List (Nat × T3)) (c : Option (Nat × T3)) (m : Nat) (b : B4) : Prop where
  hv : w.heap[v]? = some (.cells #[.iface 96 (pt a)] 122 (0, 0))
  ha : w.heap[a]? = some (.cells #[fl (I x), fl (I y), fv, cp c, pt kb, fl m] 99 (0, 0))
  hk : w.heap[kb]? = some (.cells #[fl b.1, fl b.2.1, fl b.2.2.1, fl b.2.2.2] 67 (0, 0))
  q : Q w
  size : B ≤ w.heap.size
  fin : FinB b
  inv : FinI x y f L b0 m b c

theorem FinI.box {x y : Int} {f : T3 → Bool} {L : List (Nat × T3)} {b0 : B4} {m : Nat} {b : B4} {c : Option (Nat × T3)} (h : FinI x y f L b0 m b c) (n : List (Nat × T3)) (hn : ∀ p ∈ n, Sm p.2 ∧ OutB p.2 b) : FinI x y f (n ++ L) b0 m b c := by
  cases c with
  | none =>
    obtain ⟨h1, h2, h3⟩ := h
    refine ⟨h1, h2, fun p hp hf => ?_⟩
    rcases List.mem_append.1 hp with h | h
    · rw [← h2]; exact (hn p h).2
    · exact h3 p h hf
  | some q =>
    obtain ⟨h1, h2, h3, h4, h5, h6⟩ := h
    refine ⟨List.mem_append.2 (.inr h1), h2, h3, h4, h5, fun p hp hf => ?_⟩
    rcases List.mem_append.1 hp with h | h
    · exact .inr (Int.le_of_lt (h5 _ (hn p h).1 (hn p h).2))
    · exact h6 p h hf
theorem FinI.perm {x y : Int} {f : T3 → Bool} {L L' : List (Nat × T3)} {b0 : B4} {m : Nat} {b : B4} {c : Option (Nat × T3)} (h : FinI x y f L b0 m b c) (hp : L.Perm L') : FinI x y f L' b0 m b c := by
  cases c with
  | none => exact ⟨h.1, h.2.1, fun p hm => h.2.2 p (hp.mem_iff.2 hm)⟩
  | some q => exact ⟨hp.mem_iff.1 h.1, h.2.1, h.2.2.1, h.2.2.2.1, h.2.2.2.2.1, fun p hm => h.2.2.2.2.2 p (hp.mem_iff.2 hm)⟩
/-- A node that the filter leaves out. -/
theorem FinI.skip {x y : Int} {f : T3 → Bool} {L : List (Nat × T3)} {b0 : B4} {m : Nat} {b : B4} {c : Option (Nat × T3)} (h : FinI x y f L b0 m b c) (p : Nat × T3) (hf : f p.2 = false) : FinI x y f (p :: L) b0 m b c := by
  cases c with
  | none =>
    refine ⟨h.1, h.2.1, fun r hm hr => ?_⟩
    rcases List.mem_cons.1 hm with rfl | hm
    · rw [hf] at hr; cases hr
    · exact h.2.2 r hm hr
  | some q =>
    refine ⟨List.mem_cons_of_mem _ h.1, h.2.1, h.2.2.1, h.2.2.2.1, h.2.2.2.2.1, fun r hm hr => ?_⟩
    rcases List.mem_cons.1 hm with rfl | hm
    · rw [hf] at hr; cases hr
    · exact h.2.2.2.2.2 r hm hr
/-- A node that is not nearer. -/
theorem FinI.far {x y : Int} {f : T3 → Bool} {L : List (Nat × T3)} {b0 : B4} {m : Nat} {b : B4} {q : Nat × T3} (h : FinI x y f L b0 m b (some q)) (p : Nat × T3) (hf : dsq x y q.2 ≤ dsq x y p.2) : FinI x y f (p :: L) b0 m b (some q) :=
  ⟨List.mem_cons_of_mem _ h.1, h.2.1, h.2.2.1, h.2.2.2.1, h.2.2.2.2.1, fun r hm hr => by
    rcases List.mem_cons.1 hm with rfl | hm
    · exact .inr hf
    · exact h.2.2.2.2.2 r hm hr⟩
/-- A node that is the nearest so far. -/
theorem FinI.near {x y : Int} {f : T3 → Bool} {L : List (Nat × T3)} {b0 : B4} {m : Nat} {b b' : B4} {c : Option (Nat × T3)} (h : FinI x y f L b0 m b c) (p : Nat × T3) (hp : Sm p.2) (hf : f p.2 = true) (hc : ∀ q, c = some q → dsq x y p.2 ≤ dsq x y q.2)
    (hb : ∀ r, Sm r → OutB r b' → dsq x y p.2 < dsq x y r) : FinI x y f (p :: L) b0 (I (dsq x y p.2)) b' (some p) := by
  refine ⟨List.mem_cons_self .., hf, hp, rfl, hb, fun r hm hr => ?_⟩
  rcases List.mem_cons.1 hm with rfl | hm
  · exact .inr (Int.le_refl _)
  · cases c with
    | none => exact .inl (h.2.2 r hm hr)
    | some q =>
      rcases h.2.2.2.2.2 r hm hr with h2 | h2
      · exact .inl h2
      · exact .inr (Int.le_trans (hc q rfl) h2)

theorem maxF_F : IsF maxF (rv maxF) := ⟨false, maxF, by decide, by decide, rfl⟩
theorem maxF_big : 2 ^ 60 * U < rv maxF := by
  unfold rv
  rw [if_neg (by decide)]
  exact big_lt 1200 _ _ (by decide) (Nat.le_add_right _ _) (by omega)
theorem maxF_lt (n : Nat) (hn : n < 2 ^ 50) : FloatKind.f64.format.order (I n) maxF = some .lt := by
  rw [ord_fact (I_F n (by omega)) maxF_F, cmp_lt]
  have h1 := maxF_big
  have h2 : n * U ≤ 2 ^ 60 * U := Nat.mul_le_mul_right _ (by omega)
  have h3 : ((n : Int) * (U : Int)) = ((n * U : Nat) : Int) := by rw [Int.natCast_mul]
  rw [h3]
  exact Int.ofNat_lt.2 (Nat.lt_of_le_of_lt h2 h1)
theorem ord_I (a b : Nat) (ha : a < 2 ^ 50) (hb : b < 2 ^ 50) : FloatKind.f64.format.order (I a) (I b) = some (compare (a : Int) (b : Int)) := by
  rw [ord_fact (I_F a (by omega)) (I_F b (by omega)), compare_mul _ _ _ U_pos]
theorem lt_I (a b : Nat) (ha : a < 2 ^ 50) (hb : b < 2 ^ 50) : (FloatKind.f64.format.order (I a) (I b) == some .lt) = decide (a < b) := by
  rw [ord_I a b ha hb]
  rcases tri (a : Int) b with ⟨o, h, ⟨rfl, h2⟩ | ⟨rfl, h2⟩ | ⟨rfl, h2⟩⟩ <;> rw [h]
  · rw [decide_eq_true (by omega)]; rfl
  · rw [decide_eq_false (by omega)]; rfl
  · rw [decide_eq_false (by omega)]; rfl
/-- Whether a node is nearer than what is known. -/
theorem FinI.cmp {x y : Int} {f : T3 → Bool} {L : List (Nat × T3)} {b0 : B4} {m : Nat} {b : B4} {c : Option (Nat × T3)} (h : FinI x y f L b0 m b c) (hx : x.natAbs ≤ 65536) (hy : y.natAbs ≤ 65536) (p : Nat × T3) (hp : Sm p.2) (n : Nat) (hn : dsq x y p.2 = n) :
    ∃ t : Bool, (FloatKind.f64.format.order (I n) m == some .lt) = t ∧ (t = true → ∀ q, c = some q → dsq x y p.2 ≤ dsq x y q.2) ∧ (t = false → FinI x y f (p :: L) b0 m b c) := by
  have hb := dsq_lt hx hy hp
  cases c with
  | none =>
    obtain ⟨h1, _⟩ := h
    refine ⟨true, ?_, fun _ _ h => (by cases h), fun h => (by cases h)⟩
    rw [h1, maxF_lt n (by omega)]; rfl
  | some q =>
    obtain ⟨k, hk⟩ : ∃ k : Nat, dsq x y q.2 = k := ⟨(dsq x y q.2).toNat, by have := dsq_nonneg x y q.2; omega⟩
    have hq := dsq_lt hx hy h.2.2.1
    have hm : m = I k := by rw [← hk]; exact h.2.2.2.1
    refine ⟨decide (n < k), by rw [hm]; exact lt_I n k (by omega) (by omega), fun ht r hr => ?_, fun ht => ?_⟩
    · injection hr with hr; subst hr
      have := of_decide_eq_true ht; omega
    · have := of_decide_eq_false ht
      exact h.far p (by omega)
theorem dist_n (p : T3) (x y : Int) (n : Nat) (hn : dsq x y p = n) (w : World) (hp : Sm p) (hx : x.natAbs ≤ 65536) (hy : y.natAbs ≤ 65536) :
    Calls Tryd.prog 103 #[.agg #[fl (I p.1), fl (I p.2.1)], .agg #[fl (I x), fl (I y)]] w fun e w' => e = .returned (fl (I n)) ∧ Ext w w' := by
  have h := dist_any p.1 p.2.1 x y w (by have := hp.1; omega) (by have := hp.2; omega) hx hy
  have e : (p.1 - x) * (p.1 - x) + (p.2.1 - y) * (p.2.1 - y) = n := hn
  rw [e] at h
  exact h

/-- How the visitor of Find lies. -/
structure FinL (a v kb B : Nat) (fv : Value) (Q : World → Prop) (w0 : World) (px py : Nat) (w : World) (c m : Value) (b : B4) : Prop where
  hv : w.heap[v]? = some (.cells #[.iface 96 (pt a)] 122 (0, 0))
  ha : w.heap[a]? = some (.cells #[fl px, fl py, fv, c, pt kb, m] 99 (0, 0))
  hk : w.heap[kb]? = some (.cells #[fl b.1, fl b.2.1, fl b.2.2.1, fl b.2.2.2] 67 (0, 0))
  q : Q w
  size : B ≤ w.heap.size
  below : Below B w0 w
section
variable {a v kb B : Nat} {fv : Value} {Q : World → Prop} {w0 : World} {px py : Nat} {w : World} {c m : Value} {b : B4}
theorem FinL.ext (h : FinL a v kb B fv Q w0 px py w c m b) (hQ : ∀ w w', Q w → Below B w w' → Q w') {w' : World} (hx : Ext w w') : FinL a v kb B fv Q w0 px py w' c m b :=
  ⟨Ext.blk hx h.hv, Ext.blk hx h.ha, Ext.blk hx h.hk, hQ _ _ h.q (Below.mono hx h.size), Nat.le_trans h.size hx.size, h.below.trans (Below.mono hx h.size)⟩
theorem below_set {w : World} {B : Nat} (hB : B ≤ w.heap.size) (p : Addr) (hp : B ≤ p.block) (u : Value) : Below B w (w.setCell p u) := Below.setCell (Below.refl _ _) hp u
theorem FinL.setm (h : FinL a v kb B fv Q w0 px py w c m b) (hQ : ∀ w w', Q w → Below B w w' → Q w') (hd : B ≤ a ∧ B ≤ kb ∧ a ≠ kb ∧ v ≠ a ∧ v ≠ kb) (m' : Value) : FinL a v kb B fv Q w0 px py (w.setCell ⟨a, 5, none⟩ m') c m' b :=
  ⟨by rw [blk_setCell_ne hd.2.2.2.1]; exact h.hv, by rw [blk_setCell h.ha]; rfl, by rw [blk_setCell_ne (Ne.symm hd.2.2.1)]; exact h.hk, hQ _ _ h.q (below_set h.size _ hd.1 _), by rw [size_setCell]; exact h.size, h.below.trans (below_set h.size _ hd.1 _)⟩
theorem FinL.setc (h : FinL a v kb B fv Q w0 px py w c m b) (hQ : ∀ w w', Q w → Below B w w' → Q w') (hd : B ≤ a ∧ B ≤ kb ∧ a ≠ kb ∧ v ≠ a ∧ v ≠ kb) (c' : Value) : FinL a v kb B fv Q w0 px py (w.setCell ⟨a, 3, none⟩ c') c' m b :=
  ⟨by rw [blk_setCell_ne hd.2.2.2.1]; exact h.hv, by rw [blk_setCell h.ha]; rfl, by rw [blk_setCell_ne (Ne.symm hd.2.2.1)]; exact h.hk, hQ _ _ h.q (below_set h.size _ hd.1 _), by rw [size_setCell]; exact h.size, h.below.trans (below_set h.size _ hd.1 _)⟩
def setB (b : B4) (i : Nat) (u : Nat) : B4 := match i with | 0 => (u, b.2.1, b.2.2.1, b.2.2.2) | 1 => (b.1, u, b.2.2.1, b.2.2.2) | 2 => (b.1, b.2.1, u, b.2.2.2) | _ => (b.1, b.2.1, b.2.2.1, u)
theorem setB_arr (b : B4) (i u : Nat) (hi : i < 4) : (#[fl b.1, fl b.2.1, fl b.2.2.1, fl b.2.2.2] : Array Value).setIfInBounds i (fl u) = #[fl (setB b i u).1, fl (setB b i u).2.1, fl (setB b i u).2.2.1, fl (setB b i u).2.2.2] := by
  rcases (by omega : i = 0 ∨ i = 1 ∨ i = 2 ∨ i = 3) with rfl | rfl | rfl | rfl <;> rfl
theorem FinL.setk (h : FinL a v kb B fv Q w0 px py w c m b) (hQ : ∀ w w', Q w → Below B w w' → Q w') (hd : B ≤ a ∧ B ≤ kb ∧ a ≠ kb ∧ v ≠ a ∧ v ≠ kb) (i u : Nat) (hi : i < 4) : FinL a v kb B fv Q w0 px py (w.setCell ⟨kb, i, none⟩ (fl u)) c m (setB b i u) :=
  ⟨by rw [blk_setCell_ne hd.2.2.2.2]; exact h.hv, by rw [blk_setCell_ne hd.2.2.1]; exact h.ha, by rw [blk_setCell h.hk, setB_arr _ _ _ hi], hQ _ _ h.q (below_set h.size _ hd.2.1 _), by rw [size_setCell]; exact h.size, h.below.trans (below_set h.size _ hd.2.1 _)⟩
end

end Go.Proofs.YtmmmknmncdlopaaDoor
