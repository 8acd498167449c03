/- Choosing a pivot; the random numbers. No condition but the bounds. -/
import Derived.Test.YtdkknlnlfaoapaaSortG
namespace Go.Proofs.Ytdkknlnlfaoapaa
open Go.ChangeShapes Go.WideShapes Go.ChangeAt Go.RowKit

section
variable {g bx n cap : Nat} {ts : List T3} {tail : List Value}
theorem Keep.local {W w0 w : World} {p : Nat} (hx : Ext W w0) (k : Keep p w0 w) (hp : W.heap.size ≤ p) : Keep g W w :=
  ⟨hx.os.symm.trans k.os, hx.tape.symm.trans k.tape, hx.output.symm.trans k.output, Nat.le_trans hx.size k.size, fun j hj _ => (k.block j (Nat.lt_of_lt_of_le hj hx.size) (by omega)).trans (hx.block j hj)⟩
theorem median_at (w : World) (X Y Z : Int) (x y z p s : Nat) (eX : X = x) (eY : Y = y) (eZ : Z = z) (h : Sl g bx n cap ts tail w) (hx : x < n) (hy : y < n) (hz : z < n) (hn : n ≤ 1048576) (hp : w.heap[p]? = some (.cells #[.int .i64 s] 3 (0, 0))) (hs : s ≤ 900) (hg : p ≠ g) (hb : p ≠ bx) :
    Calls Try.prog 55 #[.agg #[(.func (.func 22) #[] #[.pointer (some ⟨bx, 0, none⟩)]), (.func (.func 40) #[] #[.slice (some ⟨g, 0, none⟩) n cap, typeHandle Try.prog 28])], .int .i64 X, .int .i64 Y, .int .i64 Z, .pointer (some ⟨p, 0, none⟩)] w fun e w' => (∃ u : Nat, e = .returned (.int .i64 u) ∧ (u = x ∨ u = y ∨ u = z)) ∧ Keep p w w' ∧
      ∃ t, t ≤ s + 3 ∧ w'.heap[p]? = some (.cells #[.int .i64 (t : Nat)] 3 (0, 0)) := by
  subst eX; subst eY; subst eZ; exact median_any x y z p w s h hx hy hz hn hp hs hg hb
theorem medianadj_at (w : World) (X : Int) (a p s : Nat) (eX : X = a) (h : Sl g bx n cap ts tail w) (ha : 1 ≤ a) (ha2 : a + 1 < n) (hn : n ≤ 1048576) (hp : w.heap[p]? = some (.cells #[.int .i64 s] 3 (0, 0))) (hs : s ≤ 900) (hg : p ≠ g) (hb : p ≠ bx) :
    Calls Try.prog 54 #[.agg #[(.func (.func 22) #[] #[.pointer (some ⟨bx, 0, none⟩)]), (.func (.func 40) #[] #[.slice (some ⟨g, 0, none⟩) n cap, typeHandle Try.prog 28])], .int .i64 X, .pointer (some ⟨p, 0, none⟩)] w fun e w' => (∃ u : Nat, e = .returned (.int .i64 u) ∧ u ≤ a + 1 ∧ a ≤ u + 1) ∧ Keep p w w' ∧
      ∃ t, t ≤ s + 3 ∧ w'.heap[p]? = some (.cells #[.int .i64 (t : Nat)] 3 (0, 0)) := by
  subst eX; exact medianadj_any a p w s h ha ha2 hn hp hs hg hb
set_option maxRecDepth 8000 in
set_option maxHeartbeats 1600000 in
theorem pivot_any (a b : Nat) (W : World) (h : Sl g bx n cap ts tail W) (hab : a + 12 < b) (hb : b ≤ n) (hn : n ≤ 1048576) :
    Calls Try.prog 46 #[.agg #[(.func (.func 22) #[] #[.pointer (some ⟨bx, 0, none⟩)]), (.func (.func 40) #[] #[.slice (some ⟨g, 0, none⟩) n cap, typeHandle Try.prog 28])], .int .i64 a, .int .i64 b] W fun e w' => (∃ (u : Nat) (hint : Int), e = .returned (.tuple #[.int .i64 u, .int .i64 hint]) ∧ a ≤ u ∧ u < b) ∧ Srt g bx n cap ts tail W w' := by
  have H0 := Lib.hid h; clear h
  have hg : g < W.heap.size := by obtain ⟨d, _, hd⟩ := H0.out.row; exact (Array.getElem?_eq_some_iff.1 hd).1
  have hbx : bx < W.heap.size := (Array.getElem?_eq_some_iff.1 H0.out.box).1
  have X0 := Lib.hid (((Ext.refl W).alloc (.cells #[(.func (.func 22) #[] #[.pointer (some ⟨bx, 0, none⟩)]), (.func (.func 40) #[] #[.slice (some ⟨g, 0, none⟩) n cap, typeHandle Try.prog 28])] 69)).alloc (.cells #[.int .i64 0] 3))
  have d0 := Lib.hid (blk_old (blk_new W (.cells #[(.func (.func 22) #[] #[.pointer (some ⟨bx, 0, none⟩)]), (.func (.func 40) #[] #[.slice (some ⟨g, 0, none⟩) n cap, typeHandle Try.prog 28])] 69)) (.cells #[.int .i64 0] 3))
  have p0 := Lib.hid (show ((W.alloc (.cells #[(.func (.func 22) #[] #[.pointer (some ⟨bx, 0, none⟩)]), (.func (.func 40) #[] #[.slice (some ⟨g, 0, none⟩) n cap, typeHandle Try.prog 28])] 69)).alloc (.cells #[.int .i64 0] 3)).heap[W.heap.size + 1]? = some (.cells #[.int .i64 ((0 : Nat) : Int)] 3 (0, 0)) by
    have := blk_new (W.alloc (.cells #[(.func (.func 22) #[] #[.pointer (some ⟨bx, 0, none⟩)]), (.func (.func 40) #[] #[.slice (some ⟨g, 0, none⟩) n cap, typeHandle Try.prog 28])] 69)) (.cells #[.int .i64 0] 3)
    rw [show (W.alloc (.cells #[(.func (.func 22) #[] #[.pointer (some ⟨bx, 0, none⟩)]), (.func (.func 40) #[] #[.slice (some ⟨g, 0, none⟩) n cap, typeHandle Try.prog 28])] 69)).heap.size = W.heap.size + 1 by simp] at this
    exact this)
  obtain ⟨l, hl⟩ : ∃ l, b = a + l := ⟨b - a, by omega⟩
  subst hl
  have e8 : decide ((8 : Int) ≤ a + l - a) = true := by simp; omega
  by_cases h50 : 50 ≤ l
  · have e50 : decide ((50 : Int) ≤ a + l - a) = true := by simp; omega
    go_enter Try.func46, Try.ntmps46
    go_wp2_with fail
    refine (medianadj_at _ _ (a + l / 4) (W.heap.size + 1) 0 (by omega) (H0.out.ext X0.out) (by omega) (by omega) hn p0.out (by omega) (by omega) (by omega)).mono ?_
    rintro e w11 ⟨⟨m1, rfl, ha1, hb1⟩, k1, s1, hs1, q1⟩
    have q1 := Lib.hid q1
    have j1 := Lib.hid (k1)
    have d1 := Lib.hid ((k1.block W.heap.size (Array.getElem?_eq_some_iff.1 d0.out).1 (by omega)).trans d0.out)
    clear k1
    have D1 := cell_of_blk d1.out
    have C1 := cell_of_blk q1.out
    go_wp2_with fail
    refine (medianadj_at _ _ (a + l / 4 * 2) (W.heap.size + 1) s1 (by omega) ((H0.out.ext X0.out).keep j1.out (by omega) (by omega)) (by omega) (by omega) hn q1.out (by omega) (by omega) (by omega)).mono ?_
    rintro e w21 ⟨⟨m2, rfl, ha2, hb2⟩, k2, s2, hs2, q2⟩
    have q2 := Lib.hid q2
    have j2 := Lib.hid (j1.out.trans k2)
    have d2 := Lib.hid ((k2.block W.heap.size (Array.getElem?_eq_some_iff.1 d1.out).1 (by omega)).trans d1.out)
    clear k2
    have D2 := cell_of_blk d2.out
    have C2 := cell_of_blk q2.out
    go_wp2_with fail
    refine (medianadj_at _ _ (a + l / 4 * 3) (W.heap.size + 1) s2 (by omega) ((H0.out.ext X0.out).keep j2.out (by omega) (by omega)) (by omega) (by omega) hn q2.out (by omega) (by omega) (by omega)).mono ?_
    rintro e w31 ⟨⟨m3, rfl, ha3, hb3⟩, k3, s3, hs3, q3⟩
    have q3 := Lib.hid q3
    have j3 := Lib.hid (j2.out.trans k3)
    have d3 := Lib.hid ((k3.block W.heap.size (Array.getElem?_eq_some_iff.1 d2.out).1 (by omega)).trans d2.out)
    clear k3
    have D3 := cell_of_blk d3.out
    have C3 := cell_of_blk q3.out
    go_wp2_with fail
    refine (median_at _ _ _ _ m1 m2 m3 (W.heap.size + 1) s3 (by omega) (by omega) (by omega) ((H0.out.ext X0.out).keep j3.out (by omega) (by omega)) (by omega) (by omega) (by omega) hn q3.out (by omega) (by omega) (by omega)).mono ?_
    rintro e w1 ⟨⟨u, rfl, hu⟩, k1', t, ht, hp⟩
    have hp := Lib.hid hp
    have k1 := Lib.hid (j3.out.trans k1')
    clear k1'
    have C1 := cell_of_blk hp.out
    rcases (by omega : t = 0 ∨ t = 12 ∨ (t ≠ 0 ∧ t ≠ 12)) with rfl | rfl | ⟨h1, h2⟩
    · go_wp2
      exact bodyPost_ret (v := .tuple #[.int .i64 u, .int .i64 1]) (by simp [results, Try.results46, go_sem]) rfl ⟨⟨u, 1, rfl, by omega, by omega⟩, (H0.out.ext X0.out).keep k1.out (by omega) (by omega), Keep.local X0.out k1.out (by omega)⟩
    · go_wp2
      exact bodyPost_ret (v := .tuple #[.int .i64 u, .int .i64 2]) (by simp [results, Try.results46, go_sem]) rfl ⟨⟨u, 2, rfl, by omega, by omega⟩, (H0.out.ext X0.out).keep k1.out (by omega) (by omega), Keep.local X0.out k1.out (by omega)⟩
    · go_wp2
      exact bodyPost_ret (v := .tuple #[.int .i64 u, .int .i64 0]) (by simp [results, Try.results46, go_sem]) rfl ⟨⟨u, 0, rfl, by omega, by omega⟩, (H0.out.ext X0.out).keep k1.out (by omega) (by omega), Keep.local X0.out k1.out (by omega)⟩
  · have e50 : decide ((50 : Int) ≤ a + l - a) = false := by simp; omega
    go_enter Try.func46, Try.ntmps46
    go_wp2_with fail
    refine (median_at _ _ _ _ (a + l / 4) (a + l / 4 * 2) (a + l / 4 * 3) (W.heap.size + 1) 0 (by omega) (by omega) (by omega) (H0.out.ext X0.out) (by omega) (by omega) (by omega) hn p0.out (by omega) (by omega) (by omega)).mono ?_
    rintro e w1 ⟨⟨u, rfl, hu⟩, k1, t, ht, hp⟩
    have hp := Lib.hid hp
    have k1 := Lib.hid k1
    have C1 := cell_of_blk hp.out
    rcases (by omega : t = 0 ∨ t = 12 ∨ (t ≠ 0 ∧ t ≠ 12)) with rfl | rfl | ⟨h1, h2⟩
    · go_wp2
      exact bodyPost_ret (v := .tuple #[.int .i64 u, .int .i64 1]) (by simp [results, Try.results46, go_sem]) rfl ⟨⟨u, 1, rfl, by omega, by omega⟩, (H0.out.ext X0.out).keep k1.out (by omega) (by omega), Keep.local X0.out k1.out (by omega)⟩
    · go_wp2
      exact bodyPost_ret (v := .tuple #[.int .i64 u, .int .i64 2]) (by simp [results, Try.results46, go_sem]) rfl ⟨⟨u, 2, rfl, by omega, by omega⟩, (H0.out.ext X0.out).keep k1.out (by omega) (by omega), Keep.local X0.out k1.out (by omega)⟩
    · go_wp2
      exact bodyPost_ret (v := .tuple #[.int .i64 u, .int .i64 0]) (by simp [results, Try.results46, go_sem]) rfl ⟨⟨u, 0, rfl, by omega, by omega⟩, (H0.out.ext X0.out).keep k1.out (by omega) (by omega), Keep.local X0.out k1.out (by omega)⟩
end

end Go.Proofs.Ytdkknlnlfaoapaa
