/- 'append(a, b...)' onto a slice that the call owns, whatever b has. No condition. -/
import Derived.Test.YtmmmknmncdlopaaDoorSpecC
import Derived.Maps.AppendAt
namespace Go.Proofs.YtmmmknmncdlopaaDoor
open Go.ChangeShapes Go.WideShapes Go.ChangeAt Go.RowKit
open Go.Proofs.YtmmmknmncdlopaaDoor.F

theorem run_append_any {P : Program} (w : World) (t ty : TypeId) (base : Nat) (e : TypeId) (i : TypeInfo) (z : Value) (size bytes : Nat) (ht : P.underlying t = some (.slice e)) (hi : P.info? e = some i) (hz : i.zero = some z)
    (hsize : i.size = size) (hby : i.bytes = bytes) (hzs : z.cells.size = size) (hsz : 0 < size)
    (g0 n cap0 : Nat) (xs : List Value) (hown : w.ownsRow base e size (.slice (some ⟨g0, 0, none⟩) n cap0) n xs)
    (ad : Addr) (m c : Nat) (news : List Value) (hl : news.length = m * size) (hnews : ∀ j u, news[j]? = some u → w.cell? (ad.add j) = some u) (h1 : ∀ u ∈ news, u.oneCell' = true)
    (h63 : n + m ≤ maxLen) (hbytes : (n + m) * bytes ≤ 140737488355328) (hbase : base ≤ w.heap.size) (H : Nat) (hH : w.heap.size = H) :
    ∃ g cap w', (Builtin.append_ #[t, t] ty #[.slice (some ⟨g0, 0, none⟩) n cap0, .slice (some ad) m c]).run P w = .ok (.slice (some ⟨g, 0, none⟩) (n + m) cap) w' ∧
      w'.ownsRow base e size (.slice (some ⟨g, 0, none⟩) (n + m) cap) (n + m) (xs ++ news) ∧ w.grownBy w' (some g0) ∧ (g = g0 ∨ g = H) := by
  obtain ⟨v', w', hr, h2, h3, h4, h5⟩ := run_append_own_at (P := P) w base t ty e i z size bytes ht hi hz hsize hby hzs hsz _ n xs hown ad m c news hl hnews h1 h63 hbytes hbase
  rcases h2.2 with ⟨hv, _⟩ | ⟨g, cap, cur, rfl, _⟩
  · have := (h4.1 hv).1; cases this
  · refine ⟨g, cap, w', hr, h2, h3, ?_⟩
    rcases h5 with h5 | h5
    · exact .inl (by simpa [Value.ownBlock] using h5)
    · exact .inr (by rw [← hH]; simpa [Value.ownBlock] using h5)

section
variable {ops : Array Oper} {o : Oper} {a : Act} {w : World} {Q : Exit → Act → World → Prop}

theorem wp_join {K : Act → World → Prop} (s x : Operand)
    (ho : o.op = .call { callee := .builtin .append, args := #[s, x], argTypes := #[33, 33] })
    (base g0 n cap0 : Nat) (us : List T3) (hs : a.eval s = .slice (some ⟨g0, 0, none⟩) n cap0) (hown : w.ownsRow base 25 3 (.slice (some ⟨g0, 0, none⟩) n cap0) n (cells3 us))
    (ad : Addr) (m c : Nat) (vs : List T3) (hx : a.eval x = .slice (some ad) m c) (hm : vs.length = m) (hnews : ∀ j u, (cells3 vs)[j]? = some u → w.cell? (ad.add j) = some u)
    (N : Nat) (hN : n + m = N) (hlen : N ≤ 1048576) (hbase : base ≤ w.heap.size) (H : Nat) (hH : w.heap.size = H)
    (h : ∀ g cap w', w'.ownsRow base 25 3 (.slice (some ⟨g, 0, none⟩) N cap) N (cells3 (us ++ vs)) → w.grownBy w' (some g0) → (g = g0 ∨ g = H) → K (a.put o.dst (.slice (some ⟨g, 0, none⟩) N cap)) w') : o.wp Tryd.prog a w K Q := by
  subst hN
  obtain ⟨i0, hi0, hz0, hz1, hz2⟩ := info_parts infoI
  obtain ⟨g, cap, w', hr, h2, h3, h4⟩ := run_append_any (P := Tryd.prog) w 33 o.type base 25 i0 _ 3 24 Tryd.underlying33 hi0 hz0 hz1 hz2 rfl (by decide) g0 n cap0 _ hown ad m c (cells3 vs) (by rw [cells3_length, hm]) hnews (cells3_one vs)
    (by simp only [maxLen]; omega) (by omega) hbase H hH
  rw [← cells3_append] at h2
  unfold Oper.wp execOp
  simp only [ho, resolve, invoke, builtin, Sem.run_bind, Sem.run_pure, Result.andThen_ok, List.map_toArray, List.map_cons, List.map_nil, hs, hx, hr]
  exact h g cap w' h2 h3 h4
theorem wpList_join {rest : List Oper} (hgd : o.guard = none) (s x : Operand)
    (ho : o.op = .call { callee := .builtin .append, args := #[s, x], argTypes := #[33, 33] })
    (base g0 n cap0 : Nat) (us : List T3) (hs : a.eval s = .slice (some ⟨g0, 0, none⟩) n cap0) (hown : w.ownsRow base 25 3 (.slice (some ⟨g0, 0, none⟩) n cap0) n (cells3 us))
    (ad : Addr) (m c : Nat) (vs : List T3) (hx : a.eval x = .slice (some ad) m c) (hm : vs.length = m) (hnews : ∀ j u, (cells3 vs)[j]? = some u → w.cell? (ad.add j) = some u)
    (N : Nat) (hN : n + m = N) (hlen : N ≤ 1048576) (hbase : base ≤ w.heap.size) (H : Nat) (hH : w.heap.size = H)
    (h : ∀ g cap w', w'.ownsRow base 25 3 (.slice (some ⟨g, 0, none⟩) N cap) N (cells3 (us ++ vs)) → w.grownBy w' (some g0) → (g = g0 ∨ g = H) → wpList Tryd.prog ops Q rest (a.put o.dst (.slice (some ⟨g, 0, none⟩) N cap)) w') : wpList Tryd.prog ops Q (o :: rest) a w :=
  wpList_plain hgd fun _ hK => wp_join s x ho base g0 n cap0 us hs hown ad m c vs hx hm hnews N hN hlen hbase H hH fun g cap w' h2 h3 h4 => hK _ _ (h g cap w' h2 h3 h4)
theorem step_join {K : Act → World → Prop} {E : Prop} (hgd : o.guard = none) (s x : Operand)
    (ho : o.op = .call { callee := .builtin .append, args := #[s, x], argTypes := #[33, 33] })
    (base g0 n cap0 : Nat) (us : List T3) (hs : a.eval s = .slice (some ⟨g0, 0, none⟩) n cap0) (hown : w.ownsRow base 25 3 (.slice (some ⟨g0, 0, none⟩) n cap0) n (cells3 us))
    (ad : Addr) (m c : Nat) (vs : List T3) (hx : a.eval x = .slice (some ad) m c) (hm : vs.length = m) (hnews : ∀ j u, (cells3 vs)[j]? = some u → w.cell? (ad.add j) = some u)
    (N : Nat) (hN : n + m = N) (hlen : N ≤ 1048576) (hbase : base ≤ w.heap.size) (H : Nat) (hH : w.heap.size = H)
    (h : ∀ g cap w', w'.ownsRow base 25 3 (.slice (some ⟨g, 0, none⟩) N cap) N (cells3 (us ++ vs)) → w.grownBy w' (some g0) → (g = g0 ∨ g = H) → K (a.put o.dst (.slice (some ⟨g, 0, none⟩) N cap)) w') :
    if Region.wanted o (yielded ops a.tmps) = true then Oper.wp Tryd.prog o a w K Q else E := by
  have hw : Region.wanted o (yielded ops a.tmps) = true := by simp [Region.wanted, hgd]
  rw [if_pos hw]
  exact wp_join s x ho base g0 n cap0 us hs hown ad m c vs hx hm hnews N hN hlen hbase H hH h
end

theorem add_flat (b o j : Nat) : (⟨b, o, none⟩ : Addr).add j = ⟨b, o + j, none⟩ := by unfold Addr.add; split <;> simp_all
/-- A prefix of a row. -/
theorem own_take {w : World} {base g cap n : Nat} {us : List T3} (h : w.ownsRow base 25 3 (.slice (some ⟨g, 0, none⟩) n cap) n (cells3 us)) {i : Nat} (hi : i ≤ n) : w.ownsRow base 25 3 (.slice (some ⟨g, 0, none⟩) i cap) i (cells3 (us.take i)) := by
  have hl : us.length = n := by have := h.1; rw [cells3_length] at this; omega
  rcases h.2 with ⟨h0, _⟩ | ⟨g', cap', cur, hv, h1, h2, h3, h4, h5, h6⟩
  · cases h0
  · cases hv
    refine ⟨by rw [cells3_length, List.length_take]; omega, .inr ⟨g, cap, cur, rfl, h1, h2, by omega, h4, h5, ?_⟩⟩
    have e : cells3 us = cells3 (us.take i) ++ cells3 (us.drop i) := by rw [← cells3_append, List.take_append_drop]
    have e2 : (cells3 (us.take i)).length = i * 3 := by rw [cells3_length, List.length_take]; omega
    have e3 : cur.toList.take (i * 3) = (cur.toList.take (n * 3)).take (i * 3) := by rw [List.take_take]; congr 1; omega
    rw [e3, h6, e, ← e2, List.take_left]
/-- The cells of a part of a row. -/
theorem own_part {w : World} {base g cap n : Nat} {us : List T3} (h : w.ownsRow base 25 3 (.slice (some ⟨g, 0, none⟩) n cap) n (cells3 us)) {i : Nat} (vs : List T3) (hv : ∀ k t, vs[k]? = some t → us[i + k]? = some t) (o : Nat) (ho : o = i * 3) :
    ∀ j u, (cells3 vs)[j]? = some u → w.cell? ((⟨g, o, none⟩ : Addr).add j) = some u := by
  subst ho
  have hl : us.length = n := by have := h.1; rw [cells3_length] at this; omega
  intro j u hj
  have hj3 : j < vs.length * 3 := by have := (List.getElem?_eq_some_iff.1 hj).1; rwa [cells3_length] at this
  obtain ⟨t, ht⟩ : ∃ t, vs[j / 3]? = some t := ⟨_, List.getElem?_eq_getElem (by omega)⟩
  obtain ⟨c0, c1, c2⟩ := cells3_get vs _ t ht
  have hu := hv _ t ht
  subst hl
  obtain ⟨d0, d1, d2⟩ := ownI_cells h hu
  rw [add_flat]
  rcases (by omega : j = j / 3 * 3 ∨ j = j / 3 * 3 + 1 ∨ j = j / 3 * 3 + 2) with e | e | e
  · rw [e] at hj
    rw [e, show i * 3 + j / 3 * 3 = (i + j / 3) * 3 by omega, d0]
    rw [c0] at hj; exact hj
  · rw [e] at hj
    rw [e, show i * 3 + (j / 3 * 3 + 1) = (i + j / 3) * 3 + 1 by omega, d1]
    rw [c1] at hj; exact hj
  · rw [e] at hj
    rw [e, show i * 3 + (j / 3 * 3 + 2) = (i + j / 3) * 3 + 2 by omega, d2]
    rw [c2] at hj; exact hj

theorem erase_at {ls : List T3} {x : T3} {j : Nat} (h : ls[j]? = some x) (hn : x ∉ ls.take j) : ls.erase x = ls.take j ++ ls.drop (j + 1) := by
  have hj := (List.getElem?_eq_some_iff.1 h).1
  have e : ls = ls.take j ++ x :: ls.drop (j + 1) := by
    have h1 := List.take_append_drop j ls
    rw [List.drop_eq_getElem_cons hj, (List.getElem?_eq_some_iff.1 h).2] at h1
    exact h1.symm
  have h2 : (ls.take j ++ x :: ls.drop (j + 1)).erase x = ls.take j ++ (x :: ls.drop (j + 1)).erase x := List.erase_append_right _ hn
  rw [← e, List.erase_cons_head] at h2
  exact h2

end Go.Proofs.YtmmmknmncdlopaaDoor
