/- Maps from tiles to bools: what a look-up and a store do. Conditions: the keys' type is a struct of three integers. -/
import Derived.Test.YtdkknlnlfaoapaaLists
namespace Go.Proofs.Ytdkknlnlfaoapaa
open Go.ChangeShapes Go.WideShapes Go.ChangeAt Go.RowKit

/-- A map's entries, in the order in which they came. -/
abbrev Ents := List (T3 × Bool)
def tkey (k : IntKind) (t : T3) : Value := .agg #[.int k t.1, .int k t.2.1, .int k t.2.2]
def ents (k : IntKind) : Nat → Ents → List MapEntry
  | _, [] => []
  | n, (t, b) :: l => { key := tkey k t, val := .bool b, born := n } :: ents k (n + 1) l
theorem ents_length (k : IntKind) : ∀ (l : Ents) (n : Nat), (ents k n l).length = l.length
  | [], _ => rfl
  | (t, b) :: l, n => by simp [ents, ents_length k l (n + 1)]
theorem ents_append (k : IntKind) : ∀ (l m : Ents) (n : Nat), ents k n (l ++ m) = ents k n l ++ ents k (n + l.length) m
  | [], m, n => by simp [ents]
  | (t, b) :: l, m, n => by simp only [List.cons_append, ents, ents_append k l m (n + 1), List.length_cons]; rw [show n + 1 + l.length = n + (l.length + 1) by omega]
theorem ents_get (k : IntKind) : ∀ (l : Ents) (n i : Nat) (t : T3) (b : Bool), l[i]? = some (t, b) → (ents k n l)[i]? = some { key := tkey k t, val := .bool b, born := n + i }
  | [], _, i, _, _, h => by simp at h
  | (u, c) :: l, n, 0, t, b, h => by simp at h; obtain ⟨rfl, rfl⟩ := h; simp [ents]
  | (u, c) :: l, n, i + 1, t, b, h => by
    have := ents_get k l (n + 1) i t b (by simpa using h)
    simp only [ents, List.getElem?_cons_succ, this]
    rw [show n + 1 + i = n + (i + 1) by omega]
theorem ents_set (k : IntKind) : ∀ (l : Ents) (n j : Nat) (t : T3) (b : Bool), (∃ c, l[j]? = some (t, c)) → (ents k n l).modify j (fun e => { e with key := tkey k t, val := .bool b }) = ents k n (l.set j (t, b))
  | [], _, j, _, _, ⟨c, h⟩ => by simp at h
  | (u, c) :: l, n, 0, t, b, ⟨c', h⟩ => by simp at h; obtain ⟨rfl, rfl⟩ := h; simp [ents, List.modify]
  | (u, c) :: l, n, j + 1, t, b, ⟨c', h⟩ => by
    have := ents_set k l (n + 1) j t b ⟨c', by simpa using h⟩
    simp only [ents, List.set_cons_succ, List.modify_succ_cons, this]

/-- Where a tile stands among the entries. -/
def seek (t : T3) : Ents → Nat → Option (Nat × Bool)
  | [], _ => none
  | (u, b) :: l, i => if u = t then some (i, b) else seek t l (i + 1)
/-- What a look-up gives. -/
def getB (l : Ents) (t : T3) : Bool := match seek t l 0 with | some (_, b) => b | none => false
/-- What a store makes of the entries. -/
def putB (l : Ents) (t : T3) (b : Bool) : Ents := match seek t l 0 with | some (j, _) => l.set j (t, b) | none => l ++ [(t, b)]

theorem seek_shift (t : T3) : ∀ (l : Ents) (i : Nat), seek t l i = (seek t l 0).map fun p => (p.1 + i, p.2)
  | [], _ => rfl
  | (u, b) :: l, i => by
    unfold seek
    split
    · simp
    · rw [seek_shift t l (i + 1), seek_shift t l 1]
      cases seek t l 0 with
      | none => rfl
      | some p => simp; omega
theorem seek_some (t : T3) : ∀ (l : Ents) (j : Nat) (b : Bool), seek t l 0 = some (j, b) → l[j]? = some (t, b)
  | [], _, _, h => by simp [seek] at h
  | (u, c) :: l, j, b, h => by
    unfold seek at h
    split at h
    · rename_i hu; simp at h; obtain ⟨rfl, rfl⟩ := h; simp [hu]
    · rw [seek_shift] at h
      simp only [Option.map_eq_some_iff, Prod.exists, Prod.mk.injEq] at h
      obtain ⟨i, c', h1, rfl, rfl⟩ := h
      simpa using seek_some t l i c' h1
theorem seek_none (t : T3) : ∀ (l : Ents), seek t l 0 = none ↔ ∀ p ∈ l, p.1 ≠ t
  | [] => by simp [seek]
  | (u, c) :: l => by
    unfold seek
    split
    · rename_i hu; simp [hu]
    · rename_i hu
      rw [seek_shift, Option.map_eq_none_iff, seek_none t l]
      simp [hu]

theorem getB_append (l : Ents) (t u : T3) (b : Bool) (h : seek t l 0 = none) : getB (l ++ [(t, b)]) u = if u = t then b else getB l u := by
  have key : ∀ (l : Ents) (i : Nat), seek t l 0 = none → seek u (l ++ [(t, b)]) i = if u = t then some (l.length + i, b) else seek u l i := by
    intro l
    induction l with
    | nil =>
      intro i _
      simp only [List.nil_append, seek, List.length_nil, Nat.zero_add]
      by_cases hu : u = t
      · simp [hu]
      · simp [hu, Ne.symm hu]
    | cons p l ih =>
      intro i hn
      obtain ⟨v, c⟩ := p
      have hv : v ≠ t := (seek_none t _).1 hn (v, c) (by simp)
      have hn' : seek t l 0 = none := (seek_none t _).2 fun q hq => (seek_none t _).1 hn q (by simp [hq])
      simp only [List.cons_append, seek, ih (i + 1) hn', List.length_cons]
      by_cases hu : u = t
      · subst hu; simp [hv]; omega
      · simp [hu]
  unfold getB
  rw [key l 0 h]
  by_cases hu : u = t <;> simp [hu]
theorem getB_set (u t : T3) (b : Bool) : ∀ (l : Ents) (j : Nat) (c : Bool), (l.map (·.1)).Nodup → l[j]? = some (t, c) → ∀ i, (seek u (l.set j (t, b)) i).map (·.2) = if u = t then some b else (seek u l i).map (·.2)
  | [], j, c, _, h, _ => by simp at h
  | (v, d) :: l, 0, c, nd, h, i => by
    simp at h; obtain ⟨rfl, rfl⟩ := h
    simp only [List.set_cons_zero, seek]
    by_cases hu : u = v
    · simp [hu]
    · simp [hu, Ne.symm hu]
  | (v, d) :: l, j + 1, c, nd, h, i => by
    simp only [List.map_cons, List.nodup_cons] at nd
    have hm : t ∈ l.map (·.1) := List.mem_map.2 ⟨(t, c), List.mem_of_getElem? (by simpa using h), rfl⟩
    have hv : v ≠ t := fun e => nd.1 (e ▸ hm)
    simp only [List.set_cons_succ, seek]
    have := getB_set u t b l j c nd.2 (by simpa using h) (i + 1)
    by_cases hu : v = u
    · subst hu; simp [hv]
    · simp [hu, this]
theorem getB_put (l : Ents) (t u : T3) (b : Bool) (nd : (l.map (·.1)).Nodup) : getB (putB l t b) u = if u = t then b else getB l u := by
  unfold putB
  cases h : seek t l 0 with
  | none => exact getB_append l t u b h
  | some p =>
    obtain ⟨j, c⟩ := p
    have hs := getB_set u t b l j c nd (seek_some t l j c h) 0
    have e : ∀ m : Ents, getB m u = ((seek u m 0).map (·.2)).getD false := fun m => by
      unfold getB
      cases seek u m 0 with
      | none => rfl
      | some p => rfl
    simp only [e, hs]
    by_cases hu : u = t <;> simp [hu]
theorem keys_put (l : Ents) (t : T3) (b : Bool) : (putB l t b).map (·.1) = if t ∈ l.map (·.1) then l.map (·.1) else l.map (·.1) ++ [t] := by
  unfold putB
  cases h : seek t l 0 with
  | none =>
    have : t ∉ l.map (·.1) := by
      intro hm
      obtain ⟨p, hp, rfl⟩ := List.mem_map.1 hm
      exact (seek_none _ _).1 h p hp rfl
    simp [this]
  | some p =>
    obtain ⟨j, c⟩ := p
    have hj := seek_some t l j c h
    have hm : t ∈ l.map (·.1) := List.mem_map.2 ⟨(t, c), List.mem_of_getElem? hj, rfl⟩
    simp only [hm, if_true]
    apply List.ext_getElem?
    intro i
    rw [List.getElem?_map, List.getElem?_map, List.getElem?_set]
    by_cases hi : j = i
    · subst hi; simp [hj]
      exact (List.getElem?_eq_some_iff.1 hj).1
    · simp [hi]
theorem nodup_put (l : Ents) (t : T3) (b : Bool) (nd : (l.map (·.1)).Nodup) : ((putB l t b).map (·.1)).Nodup := by
  rw [keys_put]
  split
  · exact nd
  · rename_i h
    rw [List.nodup_append]
    exact ⟨nd, by simp, fun a ha b hb => by rw [List.mem_singleton.1 hb]; rintro rfl; exact h ha⟩

/-- What is known of a key's type. -/
structure TileKey (P : Program) (T : TypeId) (k : IntKind) : Prop where
  eq : ∀ (a b c d e f : Int) (w : World), (Op.equalIn 10000 T (.agg #[.int k a, .int k b, .int k c]) (.agg #[.int k d, .int k e, .int k f])).run P w = .ok (a == d && (b == e && c == f)) w
  check : ∀ (b : Bool) (x y z : Int) (w : World), (Instr.checkKey b 10000 T (.agg #[.int k x, .int k y, .int k z])).run P w = .ok () w
  under : ∃ fs, P.underlying T = some (.struct fs)

section
variable {P : Program} {T : TypeId} {k : IntKind}
theorem run_findAsking (K : TileKey P T k) (t : T3) (w : World) : ∀ (l : Ents) (n i : Nat), (Instr.findAsking T (tkey k t) (ents k n l) i).run P w = .ok ((seek t l i).map fun p => (p.1, .bool p.2)) w
  | [], _, _ => by simp [ents, Instr.findAsking, seek]
  | (u, b) :: l, n, i => by
    simp only [ents, Instr.findAsking, Sem.run_bind, Op.equal, Op.maxDepth, tkey, K.eq, Result.andThen_ok]
    by_cases h : u = t
    · subst h; simp [seek]
    · have hd : (t.1 == u.1 && (t.2.1 == u.2.1 && t.2.2 == u.2.2)) = false := by
        rw [Bool.eq_false_iff]; intro hh; simp at hh
        exact h (Prod.ext hh.1.symm (Prod.ext hh.2.1.symm hh.2.2.symm))
      simp only [hd, Bool.false_eq_true, if_false]
      rw [seek, if_neg h]
      exact run_findAsking K t w l (n + 1) (i + 1)
theorem run_findKey (K : TileKey P T k) (t : T3) (w : World) (l : Ents) : (Instr.findKey T (tkey k t) (ents k 0 l)).run P w = .ok ((seek t l 0).map fun p => (p.1, .bool p.2)) w := by
  obtain ⟨fs, hf⟩ := K.under
  simp only [Instr.findKey, Sem.run_bind, run_underlying hf, Result.andThen_ok]
  cases l with
  | nil => simp [ents, Instr.findNow, seek]
  | cons p l =>
    obtain ⟨u, b⟩ := p
    have : Instr.findNow (.struct fs) (tkey k t) (ents k 0 ((u, b) :: l)) 0 = none := by simp [ents, Instr.findNow, Instr.sameNow]
    rw [this]
    exact run_findAsking K t w ((u, b) :: l) 0 0

/-- Block r is a map with these entries. -/
def SetAt (k : IntKind) (w : World) (r : Nat) (l : Ents) : Prop := w.heap[r]? = some (.map (ents k 0 l).toArray l.length)

theorem run_lookup (K : TileKey P T k) {M E : TypeId} (hM : P.underlying M = some (.map T E)) (hE : ∀ w, (zeroValue E).run P w = .ok (.bool false) w) (w : World) (r : Nat) (l : Ents) (h : SetAt k w r l) (x y z : Int) :
    (Instr.lookup M (.map (some r)) (.agg #[.int k x, .int k y, .int k z]) false).run P w = .ok (.bool (getB l (x, y, z))) w := by
  have hf := run_findKey K (x, y, z) w l
  unfold tkey at hf
  simp only [Instr.lookup, Sem.run_bind, run_underlying hM, Result.andThen_ok, MapKept.run_getObj_map h, Sem.run_pure, K.check, hf]
  unfold getB
  cases seek (x, y, z) l 0 with
  | none => simp [hE]
  | some p => simp

theorem sameBits_tile (x y z : Int) : Instr.sameBits 10000 (.agg #[.int k x, .int k y, .int k z]) (.agg #[.int k x, .int k y, .int k z]) = true := by
  show Instr.sameBits (9999 + 1) _ _ = true
  simp [Instr.sameBits]

theorem run_update (K : TileKey P T k) {M E : TypeId} (hM : P.underlying M = some (.map T E)) (w : World) (r : Nat) (l : Ents) (h : SetAt k w r l) (x y z : Int) (b : Bool) :
    (Instr.mapUpdate M (.map (some r)) (.agg #[.int k x, .int k y, .int k z]) (.bool b)).run P w = .ok () { w with heap := w.heap.setIfInBounds r (.map (ents k 0 (putB l (x, y, z) b)).toArray (putB l (x, y, z) b).length) } := by
  have hf := run_findKey K (x, y, z) w l
  unfold tkey at hf
  simp only [Instr.mapUpdate, Sem.run_bind, run_underlying hM, Result.andThen_ok, MapKept.run_getObj_map h, K.check, hf]
  unfold putB
  cases hs : seek (x, y, z) l 0 with
  | none =>
    simp only [Option.map_none, MapKept.run_setObj_map _ h]
    rw [ents_append]
    simp [ents, tkey]
  | some p =>
    obtain ⟨j, c⟩ := p
    have hj := seek_some (x, y, z) l j c hs
    have hg := ents_get k l 0 j (x, y, z) c hj
    have hset := ents_set k l 0 j (x, y, z) b ⟨c, hj⟩
    simp only [Option.map_some, Sem.run_bind, List.getElem?_toArray, hg, Option.getD_some, tkey, Instr.keyThatStays, sameBits_tile, if_true, Sem.run_pure, Result.andThen_ok, MapKept.run_setObj_map _ h]
    congr 3
    rw [List.length_set]
    congr 1
    apply Array.toList_inj.1
    rw [Array.toList_modify]
    simpa [tkey] using hset
end

end Go.Proofs.Ytdkknlnlfaoapaa
