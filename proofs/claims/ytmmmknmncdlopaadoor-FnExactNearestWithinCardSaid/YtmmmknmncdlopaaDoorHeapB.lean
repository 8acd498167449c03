/- The heap of the nearest in memory; (*maxHeap).Push. Conditions: there is room; keys that compare as numbers. -/
import Derived.Test.YtmmmknmncdlopaaDoorQuadK
import Derived.Test.YtmmmknmncdlopaaDoorSorts
namespace Go.Proofs.YtmmmknmncdlopaaDoor

section
variable {d : T3 → Int}

/-- The key at an index. -/
def kv (d : T3 → Int) (H : List T3) (j : Nat) : Int := d (H.getD j (0, 0, 0))
theorem kv_of {H : List T3} {j : Nat} {p : T3} (h : H[j]? = some p) : kv d H j = d p := by
  unfold kv; rw [List.getD, h]; rfl
theorem kv_set_ne {H : List T3} {i j : Nat} (p : T3) (h : i ≠ j) : kv d (H.set i p) j = kv d H j := by
  unfold kv; rw [List.getD, List.getD, List.getElem?_set_ne h]
theorem kv_set_eq {H : List T3} {i : Nat} (p : T3) (h : i < H.length) : kv d (H.set i p) i = d p := by
  apply kv_of; rw [List.getElem?_set_self h]

/-- None is less than one below it. -/
def Hp (d : T3 → Int) (H : List T3) : Prop := ∀ j, 0 < j → j < H.length → kv d H j ≤ kv d H ((j - 1) / 2)
/-- The same, but for the item at i, which may be greater than the one above it. -/
def UpI (d : T3 → Int) (H : List T3) (i : Nat) : Prop :=
  (∀ j, 0 < j → j < H.length → j ≠ i → kv d H j ≤ kv d H ((j - 1) / 2)) ∧ (0 < i → ∀ c, 0 < c → c < H.length → (c - 1) / 2 = i → kv d H c ≤ kv d H ((i - 1) / 2))
/-- The same, but for the item at i, which may be less than those below it. -/
def DnI (d : T3 → Int) (H : List T3) (i : Nat) : Prop :=
  (∀ j, 0 < j → j < H.length → (j - 1) / 2 ≠ i → kv d H j ≤ kv d H ((j - 1) / 2)) ∧ (0 < i → ∀ c, 0 < c → c < H.length → (c - 1) / 2 = i → kv d H c ≤ kv d H ((i - 1) / 2))

theorem swap_perm {H : List T3} {i u : Nat} {p q : T3} (hi : H[i]? = some p) (hu : H[u]? = some q) : ((H.set i q).set u p).Perm H := by
  have h1 := (List.getElem?_eq_some_iff.1 hi)
  have h2 := (List.getElem?_eq_some_iff.1 hu)
  obtain ⟨l1, e1⟩ := h1
  obtain ⟨l2, e2⟩ := h2
  subst e1; subst e2
  exact List.set_set_perm l1 l2

/-- One place up. -/
theorem UpI.step {H : List T3} {i : Nat} {p q : T3} (h : UpI d H i) (hi0 : 0 < i) (hi : H[i]? = some p) (hu : H[(i - 1) / 2]? = some q) (hle : d q ≤ d p) : UpI d ((H.set i q).set ((i - 1) / 2) p) ((i - 1) / 2) := by
  obtain ⟨h1, h2⟩ := h
  have il := (List.getElem?_eq_some_iff.1 hi).1
  have ul := (List.getElem?_eq_some_iff.1 hu).1
  have ki := kv_of (d := d) hi
  have ku := kv_of (d := d) hu
  have hne : (i - 1) / 2 ≠ i := by omega
  have hl : ((H.set i q).set ((i - 1) / 2) p).length = H.length := by rw [List.length_set, List.length_set]
  have ku' : kv d ((H.set i q).set ((i - 1) / 2) p) ((i - 1) / 2) = d p := kv_set_eq p (by rw [List.length_set]; exact ul)
  have ki' : kv d ((H.set i q).set ((i - 1) / 2) p) i = d q := by rw [kv_set_ne _ hne]; exact kv_set_eq q il
  have ko : ∀ j, j ≠ i → j ≠ (i - 1) / 2 → kv d ((H.set i q).set ((i - 1) / 2) p) j = kv d H j := fun j a b => by rw [kv_set_ne _ (Ne.symm b), kv_set_ne _ (Ne.symm a)]
  rw [UpI, hl]
  constructor
  · intro j hj0 hjl hju
    by_cases hji : j = i
    · subst hji; rw [ki', ku']; exact hle
    · rw [ko j hji hju]
      have hb := h1 j hj0 hjl hji
      by_cases p1 : (j - 1) / 2 = i
      · rw [p1, ki', ← ku]; exact h2 hi0 j hj0 hjl p1
      · by_cases p2 : (j - 1) / 2 = (i - 1) / 2
        · rw [p2, ku']; rw [p2, ku] at hb; omega
        · rw [ko _ p1 p2]; exact hb
  · intro hu0 c hc0 hcl hcp
    have hbu := h1 ((i - 1) / 2) hu0 ul hne
    rw [ku] at hbu
    rw [ko (((i - 1) / 2 - 1) / 2) (by omega) (by omega)]
    by_cases hci : c = i
    · subst hci; rw [ki']; exact hbu
    · rw [ko c hci (by omega)]
      have := h1 c hc0 hcl hci
      rw [hcp, ku] at this; omega
theorem UpI.done {H : List T3} {i : Nat} (h : UpI d H i) (hd : i = 0 ∨ kv d H i ≤ kv d H ((i - 1) / 2)) : Hp d H := by
  intro j hj0 hjl
  by_cases hji : j = i
  · rcases hd with rfl | hd
    · omega
    · rw [hji]; exact hd
  · exact h.1 j hj0 hjl hji
theorem UpI.start {H : List T3} (h : Hp d H) (p : T3) : UpI d (H ++ [p]) H.length := by
  have ko : ∀ j, j < H.length → kv d (H ++ [p]) j = kv d H j := fun j hj => by
    unfold kv; rw [List.getD, List.getD, List.getElem?_append_left hj]
  constructor
  · intro j hj0 hjl hji
    rw [List.length_append, List.length_singleton] at hjl
    rw [ko j (by omega), ko _ (by omega)]
    exact h j hj0 (by omega)
  · intro h0 c hc0 hcl hcp
    rw [List.length_append, List.length_singleton] at hcl
    omega

/-- One place down: ci is a place below i, and no place below i has more. -/
theorem DnI.step {H : List T3} {i ci : Nat} {p q : T3} (h : DnI d H i) (hi : H[i]? = some p) (hc : H[ci]? = some q) (hc0 : 0 < ci) (hcp : (ci - 1) / 2 = i) (hle : d p ≤ d q) (hmax : ∀ j, 0 < j → j < H.length → (j - 1) / 2 = i → kv d H j ≤ d q) :
    DnI d ((H.set i q).set ci p) ci := by
  obtain ⟨h1, h2⟩ := h
  have il := (List.getElem?_eq_some_iff.1 hi).1
  have cl := (List.getElem?_eq_some_iff.1 hc).1
  have ki := kv_of (d := d) hi
  have kc := kv_of (d := d) hc
  have hne : ci ≠ i := by omega
  have hl : ((H.set i q).set ci p).length = H.length := by rw [List.length_set, List.length_set]
  have kc' : kv d ((H.set i q).set ci p) ci = d p := kv_set_eq p (by rw [List.length_set]; exact cl)
  have ki' : kv d ((H.set i q).set ci p) i = d q := by rw [kv_set_ne _ hne]; exact kv_set_eq q il
  have ko : ∀ j, j ≠ i → j ≠ ci → kv d ((H.set i q).set ci p) j = kv d H j := fun j a b => by rw [kv_set_ne _ (Ne.symm b), kv_set_ne _ (Ne.symm a)]
  rw [DnI, hl]
  constructor
  · intro j hj0 hjl hjp
    by_cases hjc : j = ci
    · subst hjc; rw [kc', hcp, ki']; exact hle
    · by_cases hji : j = i
      · subst hji
        rw [ki', ko _ (by omega) (by omega)]
        rw [← kc]; exact h2 hj0 ci hc0 cl hcp
      · rw [ko j hji hjc]
        by_cases p1 : (j - 1) / 2 = i
        · rw [p1, ki']; exact hmax j hj0 hjl p1
        · rw [ko _ p1 hjp]; exact h1 j hj0 hjl p1
  · intro _ c hcc0 hccl hccp
    rw [hcp, ki', ko c (by omega) (by omega), ← kc, ← hccp]
    exact h1 c hcc0 hccl (by omega)
theorem DnI.done {H : List T3} {i : Nat} (h : DnI d H i) (hd : ∀ j, 0 < j → j < H.length → (j - 1) / 2 = i → kv d H j ≤ kv d H i) : Hp d H := by
  intro j hj0 hjl
  by_cases hji : (j - 1) / 2 = i
  · rw [hji]; exact hd j hj0 hjl hji
  · exact h.1 j hj0 hjl hji
/-- The last item put in the first one's place. -/
theorem DnI.start {H : List T3} {p : T3} (h : Hp d (H ++ [p])) (h0 : 0 < H.length) : DnI d (H.set 0 p) 0 := by
  constructor
  · intro j hj0 hjl hjp
    rw [List.length_set] at hjl
    have h1 := h j hj0 (by rw [List.length_append, List.length_singleton]; omega)
    have ko : ∀ k, 0 < k → k < H.length → kv d (H.set 0 p) k = kv d (H ++ [p]) k := fun k hk hl => by
      rw [kv_set_ne _ (by omega)]; unfold kv; rw [List.getD, List.getD, List.getElem?_append_left hl]
    rw [ko j hj0 hjl, ko _ (by omega) (by omega)]; exact h1
  · intro h; omega
/-- The first item is the greatest. -/
theorem Hp.top {H : List T3} (h : Hp d H) : ∀ j, j < H.length → kv d H j ≤ kv d H 0 := by
  intro j
  induction j using Nat.strongRecOn with
  | _ j ih =>
    intro hj
    rcases Nat.eq_zero_or_pos j with rfl | h0
    · exact Int.le_refl _
    · exact Int.le_trans (h j h0 hj) (ih _ (by omega) (by omega))
theorem Hp.top_mem {H : List T3} {t : T3} (h : Hp d H) (ht : H[0]? = some t) : ∀ x ∈ H, d x ≤ d t := by
  intro x hx
  obtain ⟨j, hj⟩ := List.mem_iff_getElem?.1 hx
  have := h.top j (List.getElem?_eq_some_iff.1 hj).1
  rwa [kv_of hj, kv_of ht] at this
theorem Hp.nil : Hp d [] := by intro j _ h; simp at h
theorem Hp.short {H : List T3} (h : H.length ≤ 1) : Hp d H := by intro j h0 hl; omega
/-- What is left behind the first item is taken away. -/
theorem pop_perm {H : List T3} {p t : T3} (ht : (H ++ [p])[0]? = some t) (h0 : 0 < H.length) : (t :: H.set 0 p).Perm (H ++ [p]) := by
  cases H with
  | nil => simp at h0
  | cons a l =>
    have : a = t := by simpa using ht
    subst this
    show (a :: p :: l).Perm (a :: (l ++ [p]))
    exact List.Perm.cons _ (List.perm_append_singleton p l).symm
end

end Go.Proofs.YtmmmknmncdlopaaDoor

namespace Go.Proofs.YtmmmknmncdlopaaDoor
open Go.ChangeShapes Go.WideShapes Go.ChangeAt Go.RowKit
open Go.Proofs.YtmmmknmncdlopaaDoor.F

/-- The words of floats compare as the numbers do. -/
def Key (kw : T3 → Nat) (d : T3 → Int) : Prop := ∀ p q, Sm p → Sm q → (FloatKind.f64.format.order (kw p) (kw q) == some .lt) = decide (d p < d q)
/-- The heap's items as cells: each with its distance. -/
def hcs (kw : T3 → Nat) : List T3 → List Value
  | [] => []
  | t :: ts => iv (some t) :: fl (kw t) :: hcs kw ts
theorem hcs_append (kw : T3 → Nat) (a b : List T3) : hcs kw (a ++ b) = hcs kw a ++ hcs kw b := by
  induction a with
  | nil => rfl
  | cons t ts ih => simp [hcs, ih]
theorem hcs_length (kw : T3 → Nat) (a : List T3) : (hcs kw a).length = a.length * 2 := by
  induction a with
  | nil => rfl
  | cons t ts ih => simp [hcs, ih]; omega
theorem hcs_get (kw : T3 → Nat) : ∀ (ts : List T3) (i : Nat) (t : T3), ts[i]? = some t → (hcs kw ts)[i * 2]? = some (iv (some t)) ∧ (hcs kw ts)[i * 2 + 1]? = some (fl (kw t))
  | [], i, t, h => by simp at h
  | u :: us, 0, t, h => by simp at h; subst h; simp [hcs]
  | u :: us, i + 1, t, h => by
    have := hcs_get kw us i t (by simpa using h)
    rw [show (i + 1) * 2 = i * 2 + 2 by omega]
    exact ⟨this.1, this.2⟩
theorem hcs_set (kw : T3 → Nat) (L : List T3) (i : Nat) (t : T3) : ((hcs kw L).set (i * 2) (iv (some t))).set (i * 2 + 1) (fl (kw t)) = hcs kw (L.set i t) := by
  induction L generalizing i with
  | nil => simp [hcs]
  | cons u us ih =>
    cases i with
    | zero => simp [hcs]
    | succ i =>
      have e : (i + 1) * 2 = i * 2 + 1 + 1 := by omega
      rw [e]
      simp only [hcs, List.set_cons_succ]
      rw [ih i]

/-- How the heap lies: its header in the visitor at block a, its row at block g. -/
structure HL (R : Nat) (W w : World) (a g K n : Nat) (c0 c1 c2 c3 c5 c6 : Value) (xs : List Value) : Prop where
  ha : w.heap[a]? = some (.cells #[c0, c1, c2, c3, .slice (some ⟨g, 0, none⟩) n K, c5, c6] 116 (0, 0))
  own : w.ownsRow R 118 2 (.slice (some ⟨g, 0, none⟩) n K) n xs
  ne : a ≠ g
  mod : Mod [a, g] W w
section
variable {R : Nat} {W w w' : World} {a g K n : Nat} {c0 c1 c2 c3 c5 c6 : Value} {xs : List Value}
theorem HL.ext (h : HL R W w a g K n c0 c1 c2 c3 c5 c6 xs) (hx : Ext w w') : HL R W w' a g K n c0 c1 c2 c3 c5 c6 xs :=
  ⟨Ext.blk hx h.ha, kept_ext hx h.own, h.ne, h.mod.trans (Mod.of_ext hx)⟩
theorem HL.set (h : HL R W w a g K n c0 c1 c2 c3 c5 c6 xs) {o : Nat} (ho : o < n * 2) (u : Value) : HL R W (w.setCell ⟨g, o, none⟩ u) a g K n c0 c1 c2 c3 c5 c6 (xs.set o u) :=
  ⟨(blk_setCell_ne h.ne _ _).trans h.ha, own_set h.own o u ho, h.ne, h.mod.trans (Mod.set _ _ (by simp))⟩
/-- An item put anew. -/
theorem HL.put {kw : T3 → Nat} {H : List T3} (h : HL R W w a g K n c0 c1 c2 c3 c5 c6 (hcs kw H)) {i : Nat} (hi : i < n) (t : T3) : HL R W ((w.setCell ⟨g, i * 2, none⟩ (iv (some t))).setCell ⟨g, i * 2 + 1, none⟩ (fl (kw t))) a g K n c0 c1 c2 c3 c5 c6 (hcs kw (H.set i t)) := by
  have := (h.set (o := i * 2) (by omega) (iv (some t))).set (o := i * 2 + 1) (by omega) (fl (kw t))
  rwa [hcs_set] at this
theorem HL.cells {kw : T3 → Nat} {H : List T3} (h : HL R W w a g K n c0 c1 c2 c3 c5 c6 (hcs kw H)) {i : Nat} {t : T3} (ht : H[i]? = some t) : w.cell? ⟨g, i * 2, none⟩ = some (iv (some t)) ∧ w.cell? ⟨g, i * 2 + 1, none⟩ = some (fl (kw t)) := by
  have hl : H.length = n := by have := h.own.1; rw [hcs_length] at this; omega
  have hi : i < H.length := (List.getElem?_eq_some_iff.1 ht).1
  obtain ⟨e0, e1⟩ := hcs_get kw H i t ht
  exact ⟨by rw [h.own.cellAt (i * 2) (by omega)]; exact e0, by rw [h.own.cellAt (i * 2 + 1) (by omega)]; exact e1⟩
theorem HL.len {kw : T3 → Nat} {H : List T3} (h : HL R W w a g K n c0 c1 c2 c3 c5 c6 (hcs kw H)) : H.length = n := by have := h.own.1; rw [hcs_length] at this; omega
/-- Room for one more: the header with a greater length. -/
theorem HL.room (h : HL R W w a g K n c0 c1 c2 c3 c5 c6 xs) (hn : n < K) : ∃ z0 z1, w.cell? ⟨g, n * 2, none⟩ = some z0 ∧ w.cell? ⟨g, n * 2 + 1, none⟩ = some z1 ∧ HL R W (w.setCell ⟨a, 4, none⟩ (.slice (some ⟨g, 0, none⟩) (n + 1) K)) a g K (n + 1) c0 c1 c2 c3 c5 c6 (xs ++ [z0, z1]) := by
  rcases h.own.2 with ⟨h0, _⟩ | ⟨g', cap', cur, hv, h1, h2, h3, h4, h5, h6⟩
  · cases h0
  · cases hv
    have s0 : n * 2 < cur.size := by omega
    have s1 : n * 2 + 1 < cur.size := by omega
    refine ⟨cur[n * 2], cur[n * 2 + 1], by rw [cell_of_blk h2]; exact Array.getElem?_eq_getElem s0, by rw [cell_of_blk h2]; exact Array.getElem?_eq_getElem s1, ?_, ?_, h.ne, h.mod.trans (Mod.set _ _ (by simp))⟩
    · rw [blk_setCell h.ha]; rfl
    · refine ⟨by rw [List.length_append, h.own.1]; show n * 2 + 2 = _; omega, .inr ⟨g, K, cur, rfl, h1, (blk_setCell_ne (Ne.symm h.ne) _ _).trans h2, hn, h4, h5, ?_⟩⟩
      rw [show (n + 1) * 2 = n * 2 + 1 + 1 by omega, List.take_add_one, List.take_add_one, h6]
      simp [s0, s1]
/-- The first n items alone. -/
theorem HL.cut {kw : T3 → Nat} {H : List T3} {p : T3} (h : HL R W w a g K (n + 1) c0 c1 c2 c3 c5 c6 (hcs kw (H ++ [p]))) : HL R W (w.setCell ⟨a, 4, none⟩ (.slice (some ⟨g, 0, none⟩) n K)) a g K n c0 c1 c2 c3 c5 c6 (hcs kw H) := by
  have hl := h.len
  rw [List.length_append, List.length_singleton] at hl
  rcases h.own.2 with ⟨h0, _⟩ | ⟨g', cap', cur, hv, h1, h2, h3, h4, h5, h6⟩
  · cases h0
  · cases hv
    refine ⟨by rw [blk_setCell h.ha]; rfl, ⟨by rw [hcs_length]; omega, .inr ⟨g, K, cur, rfl, h1, (blk_setCell_ne (Ne.symm h.ne) _ _).trans h2, by omega, h4, h5, ?_⟩⟩, h.ne, h.mod.trans (Mod.set _ _ (by simp))⟩
    have e : (cur.toList.take ((n + 1) * 2)).take (n * 2) = cur.toList.take (n * 2) := by rw [List.take_take]; congr 1; omega
    rw [← e, h6, hcs_append, show n * 2 = (hcs kw H).length by rw [hcs_length]; omega, List.take_left]
end

theorem cell_some {w : World} {R g K n : Nat} {xs : List Value} (h : w.ownsRow R 118 2 (.slice (some ⟨g, 0, none⟩) n K) n xs) {o : Nat} (ho : o < n * 2) : ∃ z, w.cell? ⟨g, o, none⟩ = some z :=
  ⟨xs[o]'(by rw [h.1]; exact ho), by rw [h.cellAt o ho]; exact List.getElem?_eq_getElem _⟩
/-- What Push leaves. -/
def PushSays (R : Nat) (a g K n : Nat) (c0 c1 c2 c3 c5 c6 : Value) (kw : T3 → Nat) (d : T3 → Int) (hs : List T3) (p : T3) (w : World) (e : Ending) (w' : World) : Prop :=
  e = .returned (.tuple #[]) ∧ ∃ H, HL R w w' a g K (n + 1) c0 c1 c2 c3 c5 c6 (hcs kw H) ∧ H.Perm (p :: hs) ∧ Hp d H

set_option maxRecDepth 8000 in
set_option maxHeartbeats 6400000 in
theorem push_any {R : Nat} {W w : World} {a g K n : Nat} {c0 c1 c2 c3 c5 c6 : Value} {kw : T3 → Nat} {d : T3 → Int} {hs : List T3} (p : T3) (h : HL R W w a g K n c0 c1 c2 c3 c5 c6 (hcs kw hs)) (hn : n < K) (hK : K ≤ 64) (hp : Sm p) (hsm : ∀ x ∈ hs, Sm x) (hh : Hp d hs) (hkey : Key kw d) :
    Calls Tryd.prog 112 #[.pointer (some ⟨a, 4, none⟩), iv (some p), fl (kw p)] w (PushSays R a g K n c0 c1 c2 c3 c5 c6 kw d hs p w) := by
  have h : HL R w w a g K n c0 c1 c2 c3 c5 c6 (hcs kw hs) := ⟨h.ha, h.own, h.ne, Mod.of_ext (Ext.refl _)⟩
  obtain ⟨z0, z1, e0, e1, h1⟩ := h.room hn
  have CA := cell_of_blk h.ha
  have FA := free_of_blk h.ha
  have FR := h.own.frozenAt
  have hne := h.ne
  have hne2 : g ≠ a := Ne.symm h.ne
  have hlen := h.len
  have U0 := Lib.hid (show UpI d (hs ++ [p]) n from hlen ▸ UpI.start hh p)
  have H1 := Lib.hid (show HL R w ((((w.setCell ⟨a, 4, none⟩ (.slice (some ⟨g, 0, none⟩) (n + 1) K)).setCell ⟨g, n * 2, none⟩ (iv (some p))).setCell ⟨g, n * 2 + 1, none⟩ (fl (kw p)))) a g K (n + 1) c0 c1 c2 c3 c5 c6 (hcs kw (hs ++ [p])) from by
    have h2 := (h1.set (o := n * 2) (by omega) (iv (some p))).set (o := n * 2 + 1) (by omega) (fl (kw p))
    have e : ((hcs kw hs ++ [z0, z1]).set (n * 2) (iv (some p))).set (n * 2 + 1) (fl (kw p)) = hcs kw (hs ++ [p]) := by
      have el : (hcs kw hs).length = n * 2 := by rw [hcs_length]; omega
      rw [hcs_append, List.set_append_right _ _ (by omega), List.set_append_right _ _ (by omega), el, Nat.sub_self, show n * 2 + 1 - n * 2 = 1 by omega]
      rfl
    rwa [e] at h2)
  have HSM := Lib.hid (show ∀ x ∈ hs ++ [p], Sm x from fun x hx => by
    rcases List.mem_append.1 hx with h | h
    · exact hsm x h
    · rw [List.mem_singleton.1 h]; exact hp)
  have HKEY := Lib.hid hkey
  have st := st_fl
  clear h h1 hlen hh hsm hp hkey
  change Calls _ _ #[_, .iface 25 (.agg #[.int .i64 p.1, .int .i64 p.2.1, .int .i64 p.2.2]), _] _ _
  go_enter Tryd.func112, Tryd.ntmps112
  go_wp2_with fail
  clear CA FA FR e0 e1
  go_loopg [7] n (fun r iv wr => ∃ (i : Nat) (H : List T3), r = i ∧ i ≤ n ∧ iv = .int .i64 (i : Nat) ∧ H[i]? = some p ∧ UpI d H i ∧ H.Perm (hs ++ [p]) ∧ HL R w wr a g K (n + 1) c0 c1 c2 c3 c5 c6 (hcs kw H))
  case atStart => exact ⟨n, hs ++ [p], rfl, Nat.le_refl _, rfl, by have := H1.out.len; rw [List.length_append, List.length_singleton] at this; rw [List.getElem?_append_right (by omega)]; rw [show n - hs.length = 0 by omega]; rfl, U0.out, .refl _, H1.out⟩
  case round =>
    obtain ⟨i, H, hri, hin, rfl, hpi, hU, hP, hL⟩ := hrel
    obtain rfl := hri.symm
    have HPI := Lib.hid hpi; have HU := Lib.hid hU; have HP := Lib.hid hP; have HH := Lib.hid hL
    clear U0 H1 hpi hU hP hL
    rcases i with _ | i
    · have FIN := Lib.hid (show PushSays R a g K n c0 c1 c2 c3 c5 c6 kw d hs p w (.returned (.tuple #[])) wr from ⟨rfl, H, HH.out, HP.out.trans (List.perm_append_singleton p hs), HU.out.done (.inl rfl)⟩)
      go_wp2
      exact bodyPost_ret (v := .tuple #[]) (by simp [results, Tryd.results112, go_sem]) rfl FIN.out
    · have hlen := Lib.hid HH.out.len
      obtain ⟨u, hu⟩ : ∃ u : Nat, u = i / 2 := ⟨_, rfl⟩
      have hui : ((i : Int) + 1 + 1) / 2 - 1 = (u : Int) := by omega
      have hul : u ≤ i := by omega
      have HUE := Lib.hid (show (i + 1 - 1) / 2 = u by omega)
      clear hu
      obtain ⟨q, hq⟩ : ∃ q, H[u]? = some q := ⟨_, List.getElem?_eq_getElem (by have := hlen.out; omega)⟩
      have HQ := Lib.hid hq
      obtain ⟨f0', f1⟩ := HH.out.cells hq
      have f0 : wr.cell? ⟨g, u * 2, none⟩ = some (.iface 25 (.agg #[.int .i64 q.1, .int .i64 q.2.1, .int .i64 q.2.2])) := f0'
      obtain ⟨e0, e1⟩ := HH.out.cells HPI.out
      have CA := cell_of_blk HH.out.ha
      have FA := free_of_blk HH.out.ha
      have FR := HH.out.own.frozenAt
      have hga := (Array.getElem?_eq_some_iff.1 HH.out.ha).1
      have hgg := (own_lt HH.out.own).2
      have hk := HKEY.out p q (HSM.out p (by simp)) (HSM.out q (HP.out.mem_iff.1 (List.mem_of_getElem? hq)))
      clear hq f0'
      by_cases hlt : d p < d q
      · have hd : decide (d p < d q) = true := by simpa using hlt
        rw [hd] at hk
        clear hd
        have FIN := Lib.hid (show PushSays R a g K n c0 c1 c2 c3 c5 c6 kw d hs p w (.returned (.tuple #[])) (wr.alloc (.cells #[.iface 25 (.agg #[.int .i64 q.1, .int .i64 q.2.1, .int .i64 q.2.2]), fl (kw q)] 118)) from
          ⟨rfl, H, HH.out.ext ((Ext.refl _).alloc _), HP.out.trans (List.perm_append_singleton p hs), HU.out.done (.inr (by rw [HUE.out, kv_of HPI.out, kv_of HQ.out]; omega))⟩)
        go_wp2_with fail
        exact bodyPost_ret (v := .tuple #[]) (by simp [results, Tryd.results112, go_sem]) rfl FIN.out
      · have hd : decide (d p < d q) = false := by simpa using hlt
        rw [hd] at hk
        clear hd
        go_wp2_with fail
        have H2 := Lib.hid (HH.out.ext ((Ext.refl _).alloc (.cells #[.iface 25 (.agg #[.int .i64 q.1, .int .i64 q.2.1, .int .i64 q.2.2]), fl (kw q)] 118)))
        have BQ := Lib.hid (blk_new wr (.cells #[.iface 25 (.agg #[.int .i64 q.1, .int .i64 q.2.1, .int .i64 q.2.2]), fl (kw q)] 118))
        have hgr : g ≠ wr.heap.size := by omega
        have har : a ≠ wr.heap.size := by omega
        have hrg : wr.heap.size ≠ g := by omega
        generalize wr.alloc (.cells #[.iface 25 (.agg #[.int .i64 q.1, .int .i64 q.2.1, .int .i64 q.2.2]), fl (kw q)] 118) = wb at *
        clear CA FA FR e0 e1 f0 f1 hk
        have L1 := fun e : Later wb => cell_of_blk (Ext.blk e.h H2.out.ha)
        have L2 := fun e : Later wb => cell_of_blk (Ext.blk e.h BQ.out)
        refine region_ext_tail 8 (by kernel_rfl) (by kernel_rfl) (fun hc => ?_)
        simp only [List.take_succ_cons, List.take_zero, List.drop_succ_cons, List.drop_zero]
        repeat (go_big_quiet_step (fail))
        refine wpQuiet_nil ?_
        rintro w3 ⟨⟨_, hw3⟩, rfl⟩
        have H3 := Lib.hid (H2.out.ext hw3)
        have BQ3 := Lib.hid (Ext.blk hw3 BQ.out)
        clear L1 L2 hc hw3 H2 BQ
        have hl3 := Lib.hid H3.out.len
        obtain ⟨e0, e1⟩ := H3.out.cells HPI.out
        have FR := H3.out.own.frozenAt
        have H4 := Lib.hid (H3.out.set (o := (i + 1) * 2) (by omega) (iv (some q)))
        have BQ4 := Lib.hid ((blk_setCell_ne (b := g) (k := wr.heap.size) (by omega) ((i + 1) * 2) (iv (some q))).trans BQ3.out)
        go_wp2_with fail
        clear e0 e1 FR BQ3
        change RowKit.Hid (HL R w (World.setCell _ _ (.iface 25 (.agg #[.int .i64 q.1, .int .i64 q.2.1, .int .i64 q.2.2]))) a g K (n + 1) c0 c1 c2 c3 c5 c6 _) at H4
        change RowKit.Hid ((World.setCell _ _ (.iface 25 (.agg #[.int .i64 q.1, .int .i64 q.2.1, .int .i64 q.2.2]))).heap[wr.heap.size]? = _) at BQ4
        generalize World.setCell _ _ (.iface 25 (.agg #[.int .i64 q.1, .int .i64 q.2.1, .int .i64 q.2.2])) = w4 at *
        have L1 := fun e : Later w4 => cell_of_blk (Ext.blk e.h H4.out.ha)
        have L2 := fun e : Later w4 => cell_of_blk (Ext.blk e.h BQ4.out)
        refine region_ext_tail 8 (by kernel_rfl) (by kernel_rfl) (fun hc => ?_)
        simp only [List.take_succ_cons, List.take_zero, List.drop_succ_cons, List.drop_zero]
        repeat (go_big_quiet_step (fail))
        refine wpQuiet_nil ?_
        rintro w5 ⟨⟨_, hw5⟩, rfl⟩
        have H5 := Lib.hid (H4.out.ext hw5)
        clear L1 L2 hc hw5 H4 BQ4 H3
        obtain ⟨z, e1⟩ := cell_some H5.out.own (o := (i + 1) * 2 + 1) (by omega)
        obtain ⟨z2, e2⟩ := cell_some H5.out.own (o := u * 2) (by omega)
        obtain ⟨z3, e3⟩ := cell_some H5.out.own (o := u * 2 + 1) (by omega)
        have CA := cell_of_blk H5.out.ha
        have FR := H5.out.own.frozenAt
        have H6 := Lib.hid (show HL R w (((w5.setCell ⟨g, (i + 1) * 2 + 1, none⟩ (fl (kw q))).setCell ⟨g, u * 2, none⟩ (iv (some p))).setCell ⟨g, u * 2 + 1, none⟩ (fl (kw p))) a g K (n + 1) c0 c1 c2 c3 c5 c6 (hcs kw ((H.set (i + 1) q).set u p)) from by
          have := H5.out.set (o := (i + 1) * 2 + 1) (by omega) (fl (kw q))
          rw [hcs_set] at this
          exact this.put (by omega) p)
        clear H5
        go_wp2_with fail
        go_roundg u
        case measure => omega
        case rel =>
          refine ⟨u, (H.set (i + 1) q).set u p, rfl, by omega, rfl, ?_, ?_, (swap_perm HPI.out HQ.out).trans HP.out, H6.out⟩
          · rw [List.getElem?_set_self (by rw [List.length_set]; have := hl3.out; omega)]
          · have := HU.out.step (by omega) HPI.out (by rw [HUE.out]; exact HQ.out) (by omega)
            rwa [HUE.out] at this

end Go.Proofs.YtmmmknmncdlopaaDoor
