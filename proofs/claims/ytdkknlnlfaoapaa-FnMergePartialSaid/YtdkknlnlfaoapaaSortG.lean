/- The median of three, and of neighbours. No condition but the bounds. -/
import Derived.Test.YtdkknlnlfaoapaaSortF
namespace Go.Proofs.Ytdkknlnlfaoapaa
open Go.ChangeShapes Go.WideShapes Go.ChangeAt Go.RowKit

section
variable {g bx n cap : Nat} {ts : List T3} {tail : List Value}
theorem Sl.keep {W w : World} {p : Nat} (h : Sl g bx n cap ts tail W) (k : Keep p W w) (hg : p ≠ g) (hb : p ≠ bx) : Sl g bx n cap ts tail w := by
  obtain ⟨d, h1, h2⟩ := h.row
  exact ⟨⟨d, h1, (k.block g (Array.getElem?_eq_some_iff.1 h2).1 (Ne.symm hg)).trans h2⟩, (k.block bx (Array.getElem?_eq_some_iff.1 h.box).1 (Ne.symm hb)).trans h.box, h.len, h.ncap, h.max, h.ne⟩

set_option maxRecDepth 8000 in
set_option maxHeartbeats 1600000 in
theorem median_any (x y z p : Nat) (W : World) (s : Nat) (h : Sl g bx n cap ts tail W) (hx : x < n) (hy : y < n) (hz : z < n) (hn : n ≤ 1048576) (hp : W.heap[p]? = some (.cells #[.int .i64 s] 3 (0, 0))) (hs : s ≤ 900) (hg : p ≠ g) (hb : p ≠ bx) :
    Calls Try.prog 55 #[.agg #[(.func (.func 22) #[] #[.pointer (some ⟨bx, 0, none⟩)]), (.func (.func 40) #[] #[.slice (some ⟨g, 0, none⟩) n cap, typeHandle Try.prog 28])], .int .i64 x, .int .i64 y, .int .i64 z, .pointer (some ⟨p, 0, none⟩)] W fun e w' => (∃ u : Nat, e = .returned (.int .i64 u) ∧ (u = x ∨ u = y ∨ u = z)) ∧ Keep p W w' ∧
      ∃ t, t ≤ s + 3 ∧ w'.heap[p]? = some (.cells #[.int .i64 (t : Nat)] 3 (0, 0)) := by
  have H0 := Lib.hid h; clear h
  have hpW := (Array.getElem?_eq_some_iff.1 hp).1
  have D0 := Lib.hid (blk_new W (.cells #[(.func (.func 22) #[] #[.pointer (some ⟨bx, 0, none⟩)]), (.func (.func 40) #[] #[.slice (some ⟨g, 0, none⟩) n cap, typeHandle Try.prog 28])] 69))
  have hk0 := Lib.hid ((Keep.refl p W).ext ((Ext.refl W).alloc (.cells #[(.func (.func 22) #[] #[.pointer (some ⟨bx, 0, none⟩)]), (.func (.func 40) #[] #[.slice (some ⟨g, 0, none⟩) n cap, typeHandle Try.prog 28])] 69)))
  have hp0 := Lib.hid (blk_old hp (.cells #[(.func (.func 22) #[] #[.pointer (some ⟨bx, 0, none⟩)]), (.func (.func 40) #[] #[.slice (some ⟨g, 0, none⟩) n cap, typeHandle Try.prog 28])] 69))
  clear hp
  go_enter Try.func55, Try.ntmps55
  go_wp2_with fail
  refine (order2_any x y p _ s (H0.out.keep hk0.out hg hb) hx hy hn hp0.out (by omega)).mono ?_
  rintro e w1 ⟨⟨u1, v1, rfl, hu1, hv1⟩, k1, t1, ht1, hp1⟩
  have d1 := Lib.hid ((k1.block W.heap.size (by simp) (by omega)).trans D0.out)
  have C1 := cell_of_blk d1.out
  have s1 := Lib.hid (Nat.lt_of_lt_of_le hpW ((hk0.out.trans k1).size))
  have kk1 := Lib.hid (hk0.out.trans k1); have hp1 := Lib.hid hp1
  clear k1
  go_wp2_with fail
  refine (order2_any v1 z p _ t1 (H0.out.keep kk1.out hg hb) (by omega) hz hn hp1.out (by omega)).mono ?_
  rintro e w2 ⟨⟨u2, v2, rfl, hu2, hv2⟩, k2, t2, ht2, hp2⟩
  have d2 := Lib.hid ((k2.block W.heap.size (Array.getElem?_eq_some_iff.1 d1.out).1 (by omega)).trans d1.out)
  have C2 := cell_of_blk d2.out
  have kk2 := Lib.hid (kk1.out.trans k2); have hp2 := Lib.hid hp2
  clear k2
  go_wp2_with fail
  refine (order2_any u1 u2 p _ t2 (H0.out.keep kk2.out hg hb) (by omega) (by omega) hn hp2.out (by omega)).mono ?_
  rintro e w3 ⟨⟨u3, v3, rfl, hu3, hv3⟩, k3, t3, ht3, hp3⟩
  have kk3 := Lib.hid (kk2.out.trans k3); have hp3 := Lib.hid hp3
  clear k3
  go_wp2
  go_ret
  exact ⟨⟨v3, rfl, by omega⟩, kk3.out, t3, by omega, hp3.out⟩

set_option maxRecDepth 8000 in
set_option maxHeartbeats 1600000 in
theorem medianadj_any (a p : Nat) (W : World) (s : Nat) (h : Sl g bx n cap ts tail W) (ha : 1 ≤ a) (ha2 : a + 1 < n) (hn : n ≤ 1048576) (hp : W.heap[p]? = some (.cells #[.int .i64 s] 3 (0, 0))) (hs : s ≤ 900) (hg : p ≠ g) (hb : p ≠ bx) :
    Calls Try.prog 54 #[.agg #[(.func (.func 22) #[] #[.pointer (some ⟨bx, 0, none⟩)]), (.func (.func 40) #[] #[.slice (some ⟨g, 0, none⟩) n cap, typeHandle Try.prog 28])], .int .i64 a, .pointer (some ⟨p, 0, none⟩)] W fun e w' => (∃ u : Nat, e = .returned (.int .i64 u) ∧ u ≤ a + 1 ∧ a ≤ u + 1) ∧ Keep p W w' ∧
      ∃ t, t ≤ s + 3 ∧ w'.heap[p]? = some (.cells #[.int .i64 (t : Nat)] 3 (0, 0)) := by
  have H0 := Lib.hid h; clear h
  obtain ⟨q, rfl⟩ : ∃ q, a = q + 1 := ⟨a - 1, by omega⟩
  have hpW := (Array.getElem?_eq_some_iff.1 hp).1
  have D0 := Lib.hid (blk_new W (.cells #[(.func (.func 22) #[] #[.pointer (some ⟨bx, 0, none⟩)]), (.func (.func 40) #[] #[.slice (some ⟨g, 0, none⟩) n cap, typeHandle Try.prog 28])] 69))
  have hk0 := Lib.hid ((Keep.refl p W).ext ((Ext.refl W).alloc (.cells #[(.func (.func 22) #[] #[.pointer (some ⟨bx, 0, none⟩)]), (.func (.func 40) #[] #[.slice (some ⟨g, 0, none⟩) n cap, typeHandle Try.prog 28])] 69)))
  have hp0 := Lib.hid (blk_old hp (.cells #[(.func (.func 22) #[] #[.pointer (some ⟨bx, 0, none⟩)]), (.func (.func 40) #[] #[.slice (some ⟨g, 0, none⟩) n cap, typeHandle Try.prog 28])] 69))
  clear hp
  have HM := Lib.hid (show ∀ x y z : Int, x = q → y = (q + 1 : Nat) → z = (q + 2 : Nat) → Calls Try.prog 55 #[.agg #[(.func (.func 22) #[] #[.pointer (some ⟨bx, 0, none⟩)]), (.func (.func 40) #[] #[.slice (some ⟨g, 0, none⟩) n cap, typeHandle Try.prog 28])], .int .i64 x, .int .i64 y, .int .i64 z, .pointer (some ⟨p, 0, none⟩)] (W.alloc (.cells #[(.func (.func 22) #[] #[.pointer (some ⟨bx, 0, none⟩)]), (.func (.func 40) #[] #[.slice (some ⟨g, 0, none⟩) n cap, typeHandle Try.prog 28])] 69)) fun e w' => (∃ u : Nat, e = .returned (.int .i64 u) ∧ (u = q ∨ u = q + 1 ∨ u = q + 2)) ∧ Keep p (W.alloc (.cells #[(.func (.func 22) #[] #[.pointer (some ⟨bx, 0, none⟩)]), (.func (.func 40) #[] #[.slice (some ⟨g, 0, none⟩) n cap, typeHandle Try.prog 28])] 69)) w' ∧
      ∃ t, t ≤ s + 3 ∧ w'.heap[p]? = some (.cells #[.int .i64 (t : Nat)] 3 (0, 0)) from by
    rintro x y z rfl rfl rfl
    exact median_any q (q + 1) (q + 2) p _ s (H0.out.keep hk0.out hg hb) (by omega) (by omega) (by omega) hn hp0.out hs hg hb)
  go_enter Try.func54, Try.ntmps54
  go_wp2_with fail
  refine (HM.out _ _ _ (by omega) (by omega) (by omega)).mono ?_
  rintro e w1 ⟨⟨u, rfl, hu⟩, k1, t1, ht1, hp1⟩
  have kk1 := Lib.hid (hk0.out.trans k1); have hp1 := Lib.hid hp1
  clear k1
  go_wp2
  go_ret
  exact ⟨⟨u, rfl, by omega, by omega⟩, kk1.out, t1, by omega, hp1.out⟩
end

end Go.Proofs.Ytdkknlnlfaoapaa
