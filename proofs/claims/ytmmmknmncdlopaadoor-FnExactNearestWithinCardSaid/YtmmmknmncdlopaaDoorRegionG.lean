/- Regions whose order is left open, some operations taken first: what is left reads, the last ones go in the order of the text. No condition. -/
import Derived.Test.YtmmmknmncdlopaaDoorRegionE
namespace Go.Proofs.YtmmmknmncdlopaaDoor
open Go.ChangeShapes Go.WideShapes Go.ChangeAt Go.RowKit

section
variable {P : Program} {ops : Array Oper} {md : Region.Mode} {C : World → Prop}

def invB (md : Region.Mode) (ops : Array Oper) (n : Nat) (listed : Array Bool) : Bool :=
  decide (listed.size = ops.size) &&
  ((List.range ops.size).all fun j => !listed.getD j false || (match ops[j]? with | some o => o.after.all fun e => !Region.binds md e || listed.getD e.on false | none => true)) &&
  ((List.range ops.size).all fun t => decide (t < n) || !listed.getD t true)
theorem inv_of {n : Nat} {listed : Array Bool} (h : invB md ops n listed = true) : HeadInv md ops n listed := by
  simp only [invB, Bool.and_eq_true, decide_eq_true_eq, List.all_eq_true, List.mem_range, Bool.or_eq_true, Bool.not_eq_true'] at h
  obtain ⟨⟨h1, h2⟩, h3⟩ := h
  refine ⟨h1, fun j oj hoj hl e he hb => ?_, fun t ht hts => ?_⟩
  · have hj := (Array.getElem?_eq_some_iff.1 hoj).1
    rcases h2 j hj with h | h
    · rw [h] at hl; cases hl
    · rw [hoj] at h
      simp only [Array.all_eq_true_iff_forall_mem, Bool.or_eq_true, Bool.not_eq_true'] at h
      rcases h e he with h | h
      · rw [h] at hb; cases hb
      · exact h
  · rcases h3 t hts with h | h
    · omega
    · exact h
def sinkFrom (md : Region.Mode) (ops : Array Oper) (n : Nat) (s0 : Array Bool) : Bool :=
  (List.range n).all fun i => s0.getD i true || (List.range (n + 1)).any fun j => decide (i < j) && Region.waitsFor md ops j i
def Sub (s0 listed : Array Bool) : Prop := ∀ i, listed.getD i true = false → s0.getD i true = false
theorem Sub.set {s0 listed : Array Bool} (h : Sub s0 listed) (j : Nat) : Sub s0 (listed.setIfInBounds j true) := fun i hi => by
  by_cases e : j = i
  · subst e
    by_cases hj : j < listed.size
    · rw [Array.getD_eq_getD_getElem?, Array.getElem?_setIfInBounds_self_of_lt hj] at hi
      cases hi
    · refine h j ?_
      rw [Array.setIfInBounds_eq_of_size_le (by omega)] at hi
      exact hi
  · exact h i (by rwa [getD_set_ne true e] at hi)

theorem tail_waits_from {n : Nat} {s0 listed : Array Bool} (hs : sinkFrom md ops n s0 = true) (hsub : Sub s0 listed) (hc : Region.chainB md ops n = true) (hn : n < ops.size) (inv : HeadInv md ops n listed) :
    ∀ (d i : Nat), n - i = d → i < n → listed.getD i true = false → ∀ t, n ≤ t → t ∉ Region.ready md ops listed := by
  intro d
  induction d using Nat.strongRecOn with
  | _ d ih =>
    intro i hd hi hun t ht hr
    obtain ⟨_, ot, hot, hall⟩ := mem_ready.1 hr
    have htlt : t < ops.size := (Array.getElem?_eq_some_iff.1 hot).1
    by_cases htn : t = n
    · subst htn
      have h1 := List.all_eq_true.1 hs i (List.mem_range.2 hi)
      rw [hsub i hun, Bool.false_or] at h1
      obtain ⟨j, hj, hj2⟩ := List.any_eq_true.1 h1
      simp only [Bool.and_eq_true, decide_eq_true_eq] at hj2
      obtain ⟨oj, hoj, e, he, hb, hon⟩ := Region.waitsFor_spec hj2.2
      have hjle : j ≤ t := by have := List.mem_range.1 hj; omega
      by_cases hjt : j = t
      · subst hjt
        have : oj = ot := Option.some.inj (hoj.symm.trans hot)
        subst this
        have h2 := hall e he hb
        rw [hon, getD_both hun] at h2
        cases h2
      · cases hl : listed.getD j false with
        | true =>
          have h2 := inv.closed j oj hoj hl e he hb
          rw [hon, getD_both hun] at h2
          cases h2
        | false =>
          have hjs : j < listed.size := by rw [inv.size]; omega
          exact ih (t - j) (by omega) j rfl (by omega) (getD_in hjs hl) t (Nat.le_refl _) hr
    · have h1 := List.all_eq_true.1 hc t (List.mem_range.2 htlt)
      simp only [Bool.or_eq_true, decide_eq_true_eq] at h1
      rcases h1 with h1 | h1
      · omega
      · obtain ⟨o', ho', e, he, hb, hon⟩ := Region.waitsFor_spec h1
        have : o' = ot := Option.some.inj (ho'.symm.trans hot)
        subst this
        have h2 := hall e he hb
        rw [hon, getD_both (inv.tail (t - 1) (by omega) (by omega))] at h2
        cases h2

theorem headQ_first_from {n i : Nat} {s0 : Array Bool} {oi : Oper} {v : Value} {L : Array Bool → Act → Prop} (hi : ops[i]? = some oi) (hsel : ∀ (j : Nat) (o : Oper) cs b, ops[j]? = some o → o.op ≠ .select cs b)
    (hs : sinkFrom md ops n s0 = true) (hc : Region.chainB md ops n = true) (hn : n < ops.size) (hin : i < n)
    (hdone : ∀ listed a, L listed a → ∀ j ∈ Region.ready md ops listed, n ≤ j) :
    ∀ (f : Nat) (listed : Array Bool) (a : Act), HeadInv md ops n listed → Sub s0 listed →
      (∀ j oj, ops[j]? = some oj → j ≠ i → listed.getD j true = false → (∀ e ∈ oj.after, Region.binds md e = true → e.on ≠ i) → oi.apart ops oj = true) →
      i ∈ Region.ready md ops listed → YieldsIn P ops C oi v a →
      headQ P md ops C n L f (listed.setIfInBounds i true) (a.put oi.dst v) → headQ P md ops C n L (f + 1) listed a := by
  intro f
  induction f with
  | zero =>
    intro listed a inv hsub _ hr hy H
    have hun := (mem_ready.1 hr).1
    refine ⟨fun h => (by rw [h] at hr; cases hr), fun j hj => ?_⟩
    have hjn : j < n := by
      rcases Nat.lt_or_ge j n with h | h
      · exact h
      · exact absurd hj (tail_waits_from hs hsub hc hn inv _ i rfl hin hun j h)
    refine ⟨hjn, ?_⟩
    by_cases hji : j = i
    · subst hji; exact hy.qOp hi H
    · have := hdone _ _ H j (ready_mono hj hji)
      omega
  | succ f ih =>
    intro listed a inv hsub hfree hr hy H
    have hun := (mem_ready.1 hr).1
    refine ⟨fun h => (by rw [h] at hr; cases hr), fun j hj => ?_⟩
    have hjn : j < n := by
      rcases Nat.lt_or_ge j n with h | h
      · exact h
      · exact absurd hj (tail_waits_from hs hsub hc hn inv _ i rfl hin hun j h)
    refine ⟨hjn, ?_⟩
    by_cases hji : j = i
    · subst hji; exact hy.qOp hi H
    · have h1 := (H.2 j (ready_mono hj hji)).2
      obtain ⟨hjun, oj, hoj, hall⟩ := mem_ready.1 hj
      have hnot : ∀ e ∈ oj.after, Region.binds md e = true → e.on ≠ i := fun e he hb heq => by
        have h1 := hall e he hb
        rw [heq, getD_both hun] at h1
        cases h1
      have h2 := qOp_put hoj (hfree j oj hoj hji hjun hnot) (fun cs b => hsel i oi cs b hi) (fun cs b => hsel j oj cs b hoj) hy h1
      have hfree' : ∀ k ok, ops[k]? = some ok → k ≠ i → (listed.setIfInBounds j true).getD k true = false →
          (∀ e ∈ ok.after, Region.binds md e = true → e.on ≠ i) → oi.apart ops ok = true := fun k ok hk hki hun hno => by
        refine hfree k ok hk hki ?_ hno
        by_cases hjk : j = k
        · subst hjk; exact hjun
        · rw [getD_set_ne true hjk] at hun; exact hun
      refine qOp_mono (fun a' h3 => ih (listed.setIfInBounds j true) a' (inv.set hj hjn) (hsub.set j) hfree' (ready_mono hr (Ne.symm hji)) h3.1 ?_) h2
      rw [Array.setIfInBounds_comm _ _ hji]
      exact h3.2

theorem headQ_lex_from {n g : Nat} {s0 : Array Bool} {Lq : Act → Prop} (hsel : Region.noSelect ops = true) (hs : sinkFrom md ops n s0 = true) (hc : Region.chainB md ops n = true) (hn : n < ops.size) :
    ∀ (l : List Oper) (k : Nat) (listed : Array Bool) (a : Act), (∀ j, j < l.length → l[j]? = ops[k + j]?) → k + l.length = n → HeadInv md ops n listed → Sub s0 listed →
    Region.lexHead md ops g l.length k listed = true → wpQuiet P ops C Lq l a →
    headQ P md ops C n (fun listed' a' => Region.seqB md ops g n listed' = true ∧ Lq a') l.length listed a
  | [], k, listed, a, _, hk, _, _, hB, h => by
    have : k = n := by simpa using hk
    subst this
    exact ⟨by simpa [Region.lexHead] using hB, h⟩
  | o :: l, k, listed, a, hl, hk, inv, hsub, hB, h => by
    have h0 : ops[k]? = some o := by simpa using (hl 0 (by simp)).symm
    simp only [List.length_cons, Region.lexHead, Bool.and_eq_true] at hB
    obtain ⟨⟨hr, hf⟩, hB'⟩ := hB
    have hkn : k < n := by simp only [List.length_cons] at hk; omega
    have hr' : k ∈ Region.ready md ops listed := by simpa using hr
    have hst : qOp P ops C k (wpQuiet P ops C Lq l) a := by unfold qOp; simp only [h0]; exact h
    obtain ⟨v, hy, hK⟩ := yieldsIn_of_qOp h0 hst
    exact headQ_first_from h0 (Region.noSelect_spec hsel) hs hc hn hkn (fun listed' a' hL => seqB_ready hL.1) l.length listed a inv hsub (Region.free_spec h0 hf) hr' hy
      (headQ_lex_from hsel hs hc hn l (k + 1) _ _ (fun j hj => by have := hl (j + 1) (by simp; omega); simpa [Nat.add_assoc, Nat.add_comm 1 j] using this) (by simp only [List.length_cons] at hk; omega) (inv.set hr' hkn) (hsub.set k) hB' hK)

def lexFromB (md : Region.Mode) (ops : Array Oper) (k n : Nat) (listed : Array Bool) : Bool :=
  Region.noSelect ops && decide (n < ops.size) && decide (k ≤ n) && sinkFrom md ops n listed && Region.chainB md ops n && invB md ops n listed && Region.lexHead md ops (ops.size - n) (n - k) k listed
/-- The operations from the k-th up to the n-th quiet in a class of worlds; the others, which wait for them, in the order of the text. -/
theorem any_tail_from {Q : Exit → Act → World → Prop} {a : Act} {w : World} {l : List Oper} {listed : Array Bool} {fuel : Nat} (k n : Nat) (hB : lexFromB .any l.toArray k n listed = true) (hf : fuel + k = l.length) (hC : C w)
    (h : wpQuiet P l.toArray C (fun a' => ∀ w', C w' → wpList P l.toArray Q (l.drop n) a' w') ((l.take n).drop k) a) : wpAny P .any l.toArray Q fuel listed a w := by
  simp only [lexFromB, Bool.and_eq_true, decide_eq_true_eq] at hB
  obtain ⟨⟨⟨⟨⟨⟨hsel, hn⟩, hk⟩, hs⟩, hc⟩, hi⟩, hlex⟩ := hB
  have hn' : n < l.length := by simpa using hn
  have htl : ((l.take n).drop k).length = n - k := by simp; omega
  have hdl : (l.drop n).length = l.toArray.size - n := by simp
  have H := headQ_lex_from (md := .any) (g := l.toArray.size - n) (s0 := listed) hsel hs hc hn ((l.take n).drop k) k listed a (fun j hj => by
    have hj' : j < n - k := by rw [htl] at hj; exact hj
    rw [List.getElem?_drop, List.getElem?_take_of_lt (by omega)]
    simp) (by rw [htl]; omega) (inv_of hi) (fun _ h => h) (by rw [htl]; exact hlex) h
  have := any_of_headQ (Q' := Q) (g := l.toArray.size - n) (fun listed a' w' hw' hL => by
    have := wpAny_of_seq (md := .any) (Q' := Q) (l.drop n) n listed a' w' (fun j => by simp [List.getElem?_drop]) (by rw [hdl]; exact hL.1) (hL.2 w' hw')
    rwa [hdl] at this) _ _ _ _ hC H
  rw [htl, show (n - k) + (l.toArray.size - n) = fuel by simp; omega] at this
  exact this
end

/-- A move that is taken first. -/
theorem take_move {P : Program} {ops : Array Oper} {md : Region.Mode} {Q : Exit → Act → World → Prop} {i d s : Nat} {ty : TypeId} {pos : String} {after : Array Edge} {v : Value} {fuel : Nat} {listed : Array Bool} {ts ts' : Array Value} {ds : List Deferred} {w : World}
    (hi : ops[i]? = some { dst := some d, op := .move (.tmp s), type := ty, pos := pos, after := after, guard := none })
    (hs : Region.noSelect ops = true) (hf : Region.free md ops listed i = true) (hr : (Region.ready md ops listed).contains i = true)
    (hQ : ∀ c a w v, Q (.panic c) (a.put (some d) v) w → Q (.panic c) a w) (hv : ts[s]? = some v) (ht : ts.setIfInBounds d v = ts')
    (h : wpAny P md ops Q fuel (listed.setIfInBounds i true) { tmps := ts', defers := ds } w) : wpAny P md ops Q (fuel + 1) listed { tmps := ts, defers := ds } w := by
  subst ht
  refine wpAny_take hi hs hf hr (fun c a w => hQ c a w v) (Or.inl ⟨rfl, fun w => ?_⟩) h
  simp [execOp, Act.eval, hv]

/-- An operation that yields one value whatever the world, taken first. -/
theorem take_op {P : Program} {ops : Array Oper} {md : Region.Mode} {Q : Exit → Act → World → Prop} {i d : Nat} {op : Op} {ty : TypeId} {pos : String} {after : Array Edge} (v : Value) {fuel : Nat} {listed : Array Bool} {ts ts' : Array Value} {ds : List Deferred} {w : World}
    (hi : ops[i]? = some { dst := some d, op := op, type := ty, pos := pos, after := after, guard := none })
    (hs : Region.noSelect ops = true) (hf : Region.free md ops listed i = true) (hr : (Region.ready md ops listed).contains i = true)
    (hQ : ∀ c a w v, Q (.panic c) (a.put (some d) v) w → Q (.panic c) a w) (hy : Yields P ops { dst := some d, op := op, type := ty, pos := pos, after := after, guard := none } v { tmps := ts, defers := ds }) (ht : ts.setIfInBounds d v = ts')
    (h : wpAny P md ops Q fuel (listed.setIfInBounds i true) { tmps := ts', defers := ds } w) : wpAny P md ops Q (fuel + 1) listed { tmps := ts, defers := ds } w := by
  subst ht
  exact wpAny_take hi hs hf hr (fun c a w => hQ c a w v) hy h

theorem later_drew {w : World} : ∃ e : Later w, { w with drawn := w.drawn + 1 } = e.w := ⟨⟨_, (Ext.refl w).drew⟩, rfl⟩

end Go.Proofs.YtmmmknmncdlopaaDoor
