/- The visitor of KNearest: what it knows. Plain: no program. No condition. -/
import Derived.Test.YtmmmknmncdlopaaDoorHeapC
import Derived.Test.YtmmmknmncdlopaaDoorQuadL
namespace Go.Proofs.YtmmmknmncdlopaaDoor
open Go.ChangeShapes Go.WideShapes Go.ChangeAt Go.RowKit
open Go.Proofs.YtmmmknmncdlopaaDoor.F

/-- The word of an item's distance. -/
def dw (x y : Int) (p : T3) : Nat := I (dsq x y p)
theorem dsq_cast {x y : Int} (p : T3) (hx : x.natAbs ≤ 65536) (hy : y.natAbs ≤ 65536) (hp : Sm p) : ∃ n : Nat, dsq x y p = n ∧ n < 2 ^ 50 := by
  have h1 := dsq_lt hx hy hp
  have h2 := dsq_nonneg x y p
  exact ⟨(dsq x y p).toNat, by omega, by omega⟩
theorem key_dsq {x y : Int} (hx : x.natAbs ≤ 65536) (hy : y.natAbs ≤ 65536) : Key (dw x y) (dsq x y) := fun p q hp hq => by
  obtain ⟨n, hn, hn2⟩ := dsq_cast p hx hy hp
  obtain ⟨m, hm, hm2⟩ := dsq_cast q hx hy hq
  unfold dw
  rw [hn, hm, lt_I n m hn2 hm2]
  by_cases h : n < m
  · rw [decide_eq_true h, decide_eq_true (by omega)]
  · rw [decide_eq_false h, decide_eq_false (by omega)]
/-- A float that says which distances are below M. -/
def Below' (mw : Nat) (M : Int) : Prop := ∀ n : Nat, n < 2 ^ 50 → (FloatKind.f64.format.order (I n) mw == some .lt) = decide ((n : Int) < M)
theorem below_max : Below' maxF (2 ^ 50) := fun n hn => by
  rw [maxF_lt n hn, decide_eq_true (by omega)]; rfl
theorem below_I (m : Nat) (hm : m < 2 ^ 50) : Below' (I m) m := fun n hn => by
  rw [lt_I n m hn hm]
  by_cases h : n < m
  · rw [decide_eq_true h, decide_eq_true (by omega)]
  · rw [decide_eq_false h, decide_eq_false (by omega)]

/-- What the visitor knows of the nodes L: the heap hs, the greatest distance's word m, the box b. -/
structure NeaI (x y : Int) (k : Nat) (M : Int) (mw : Nat) (L : List (Nat × T3)) (b0 : B4) (hs : List T3) (m : Nat) (b : B4) : Prop where
  hp : Hp (dsq x y) hs
  lt : ∀ h ∈ hs, dsq x y h < M ∧ Sm h
  ex : ∃ R, (hs ++ R).Perm (L.map (·.2)) ∧
    ((m = mw ∧ b = b0 ∧ hs.length ≤ k ∧ ∀ r ∈ R, OutB r b0 ∨ M ≤ dsq x y r) ∨
     (∃ t, hs.length = k ∧ hs[0]? = some t ∧ m = I (dsq x y t) ∧ (∀ p, Sm p → OutB p b → dsq x y t < dsq x y p) ∧ ∀ r ∈ R, OutB r b0 ∨ M ≤ dsq x y r ∨ dsq x y t ≤ dsq x y r))
section
variable {x y : Int} {k : Nat} {M : Int} {mw : Nat} {L L' : List (Nat × T3)} {b0 b b' : B4} {hs : List T3} {m : Nat}
theorem NeaI.box (h : NeaI x y k M mw L b0 hs m b) (n : List (Nat × T3)) (hn : ∀ p ∈ n, Sm p.2 ∧ OutB p.2 b) : NeaI x y k M mw (n ++ L) b0 hs m b := by
  obtain ⟨R, hR, hc⟩ := h.ex
  have hp : (hs ++ (n.map (·.2) ++ R)).Perm ((n ++ L).map (·.2)) := by
    rw [List.map_append]
    have h1 : (hs ++ (n.map (·.2) ++ R)).Perm (n.map (·.2) ++ (hs ++ R)) := by
      rw [← List.append_assoc, ← List.append_assoc]
      exact List.Perm.append_right R List.perm_append_comm
    exact h1.trans (hR.append_left _)
  refine ⟨h.hp, h.lt, n.map (·.2) ++ R, hp, ?_⟩
  rcases hc with ⟨h1, h2, h3, h4⟩ | ⟨t, h1, h2, h3, h4, h5⟩
  · refine .inl ⟨h1, h2, h3, fun r hr => ?_⟩
    rcases List.mem_append.1 hr with hr | hr
    · obtain ⟨q, hq, rfl⟩ := List.mem_map.1 hr
      exact .inl (h2 ▸ (hn q hq).2)
    · exact h4 r hr
  · refine .inr ⟨t, h1, h2, h3, h4, fun r hr => ?_⟩
    rcases List.mem_append.1 hr with hr | hr
    · obtain ⟨q, hq, rfl⟩ := List.mem_map.1 hr
      exact .inr (.inr (Int.le_of_lt (h4 _ (hn q hq).1 (hn q hq).2)))
    · exact h5 r hr
theorem NeaI.perm (h : NeaI x y k M mw L b0 hs m b) (hL : L.Perm L') : NeaI x y k M mw L' b0 hs m b := by
  obtain ⟨R, hR, hc⟩ := h.ex
  exact ⟨h.hp, h.lt, R, hR.trans (hL.map _), hc⟩
/-- A node that is not near enough. -/
theorem NeaI.far (h : NeaI x y k M mw L b0 hs m b) (hx : x.natAbs ≤ 65536) (hy : y.natAbs ≤ 65536) (hM : Below' mw M) (p : Nat × T3) (hp : Sm p.2) (n : Nat) (hn : dsq x y p.2 = n) (hc : (FloatKind.f64.format.order (I n) m == some .lt) = false) : NeaI x y k M mw (p :: L) b0 hs m b := by
  obtain ⟨R, hR, hcs⟩ := h.ex
  have hl := dsq_lt hx hy hp
  refine ⟨h.hp, h.lt, p.2 :: R, ?_, ?_⟩
  · rw [List.map_cons]
    exact List.perm_middle.trans (hR.cons _)
  · rcases hcs with ⟨h1, h2, h3, h4⟩ | ⟨t, h1, h2, h3, h4, h5⟩
    · refine .inl ⟨h1, h2, h3, fun r hr => ?_⟩
      rcases List.mem_cons.1 hr with rfl | hr
      · rw [h1, hM n (by omega)] at hc
        have := of_decide_eq_false hc
        exact .inr (by omega)
      · exact h4 r hr
    · refine .inr ⟨t, h1, h2, h3, h4, fun r hr => ?_⟩
      rcases List.mem_cons.1 hr with rfl | hr
      · have ht := (h.lt t (List.mem_of_getElem? h2)).2
        obtain ⟨c, hc1, hc2⟩ := dsq_cast t hx hy ht
        rw [h3, hc1, lt_I n c (by omega) hc2] at hc
        have := of_decide_eq_false hc
        exact .inr (.inr (by omega))
      · exact h5 r hr
theorem NeaI.below (h : NeaI x y k M mw L b0 hs m b) (hx : x.natAbs ≤ 65536) (hy : y.natAbs ≤ 65536) (hM : Below' mw M) (p : T3) (hp : Sm p) (n : Nat) (hn : dsq x y p = n) (hc : (FloatKind.f64.format.order (I n) m == some .lt) = true) : dsq x y p < M ∧ ∀ t, hs.length = k → hs[0]? = some t → m = I (dsq x y t) → dsq x y p < dsq x y t := by
  obtain ⟨R, hR, hcs⟩ := h.ex
  have hl := dsq_lt hx hy hp
  have key : ∀ t, hs[0]? = some t → m = I (dsq x y t) → dsq x y p < dsq x y t := fun t h2 h3 => by
    have ht := (h.lt t (List.mem_of_getElem? h2)).2
    obtain ⟨c, hc1, hc2⟩ := dsq_cast t hx hy ht
    rw [h3, hc1, lt_I n c (by omega) hc2] at hc
    have := of_decide_eq_true hc
    omega
  refine ⟨?_, fun t _ h2 h3 => key t h2 h3⟩
  rcases hcs with ⟨h1, h2, h3, h4⟩ | ⟨t, h1, h2, h3, h4, h5⟩
  · rw [h1, hM n (by omega)] at hc
    have := of_decide_eq_true hc
    omega
  · have := key t h2 h3
    have := (h.lt t (List.mem_of_getElem? h2)).1
    omega
/-- A node that is put in, and there is room. -/
theorem NeaI.more (h : NeaI x y k M mw L b0 hs m b) (p : Nat × T3) (hp : Sm p.2) (hlt : dsq x y p.2 < M) {H : List T3} (hH : Hp (dsq x y) H) (hP : H.Perm (p.2 :: hs)) (hk : H.length ≤ k) : NeaI x y k M mw (p :: L) b0 H m b := by
  obtain ⟨R, hR, hcs⟩ := h.ex
  have hl := hP.length_eq
  rw [List.length_cons] at hl
  refine ⟨hH, fun z hz => ?_, R, ?_, ?_⟩
  · rcases List.mem_cons.1 (hP.mem_iff.1 hz) with rfl | hz
    · exact ⟨hlt, hp⟩
    · exact h.lt z hz
  · rw [List.map_cons]
    exact (hP.append_right R).trans (hR.cons _)
  · rcases hcs with ⟨h1, h2, h3, h4⟩ | ⟨t, h1, _⟩
    · exact .inl ⟨h1, h2, hk, h4⟩
    · omega
/-- A node that is put in, and the farthest is taken out. -/
theorem NeaI.full (h : NeaI x y k M mw L b0 hs m b) (p : Nat × T3) (hp : Sm p.2) (hlt : dsq x y p.2 < M) (hnr : ∀ t, hs.length = k → hs[0]? = some t → m = I (dsq x y t) → dsq x y p.2 < dsq x y t) {H H' : List T3} {t t' : T3} (hH : Hp (dsq x y) H) (hP : H.Perm (p.2 :: hs))
    (ht : H[0]? = some t) (hP' : (t :: H').Perm H) (hH' : Hp (dsq x y) H') (hk : H'.length = k) (ht' : H'[0]? = some t') (hb : ∀ r, Sm r → OutB r b' → dsq x y t' < dsq x y r) : NeaI x y k M mw (p :: L) b0 H' (I (dsq x y t')) b' := by
  obtain ⟨R, hR, hcs⟩ := h.ex
  have hsub : ∀ z ∈ H', z ∈ H := fun z hz => hP'.mem_iff.1 (List.mem_cons_of_mem _ hz)
  have htm := hH.top_mem ht
  have hm' : t' ∈ H := hsub t' (List.mem_of_getElem? ht')
  refine ⟨hH', fun z hz => ?_, t :: R, ?_, .inr ⟨t', hk, ht', rfl, hb, fun r hr => ?_⟩⟩
  · rcases List.mem_cons.1 (hP.mem_iff.1 (hsub z hz)) with rfl | hz
    · exact ⟨hlt, hp⟩
    · exact h.lt z hz
  · rw [List.map_cons]
    refine List.perm_middle.trans ?_
    exact ((hP'.trans hP).append_right R).trans (hR.cons _)
  · rcases List.mem_cons.1 hr with rfl | hr
    · exact .inr (.inr (htm t' hm'))
    · rcases hcs with ⟨h1, h2, h3, h4⟩ | ⟨s, h1, h2, h3, h4, h5⟩
      · rcases h4 r hr with h | h
        · exact .inl h
        · exact .inr (.inl h)
      · rcases h5 r hr with h6 | h6 | h6
        · exact .inl h6
        · exact .inr (.inl h6)
        · refine .inr (.inr (Int.le_trans ?_ h6))
          rcases List.mem_cons.1 (hP.mem_iff.1 hm') with h7 | h7
          · rw [h7]; exact Int.le_of_lt (hnr s h1 h2 h3)
          · exact h.hp.top_mem h2 t' h7
theorem NeaI.len (h : NeaI x y k M mw L b0 hs m b) : hs.length ≤ k := by
  obtain ⟨R, hR, ⟨_, _, h3, _⟩ | ⟨t, h1, _⟩⟩ := h.ex
  · exact h3
  · omega
end

end Go.Proofs.YtmmmknmncdlopaaDoor
