/- Visiting a tree, whatever the visitor is that meets a contract. -/
import Derived.Test.YtmmmknmncdlopaaDoorQuadD
import Derived.Deep.Cut
namespace Go.Proofs.YtmmmknmncdlopaaDoor
open Go.ChangeShapes Go.WideShapes Go.ChangeAt Go.RowKit
open Go.Proofs.YtmmmknmncdlopaaDoor.F

/-- A pointer to a block. -/
abbrev pt (a : Nat) : Value := .pointer (some ⟨a, 0, none⟩)
/-- An item lies outside a box. -/
def Out (x : T3) (x0 y0 x1 y1 : Nat) : Prop := val x1 < x.1 * U ∨ x.1 * U < val x0 ∨ val y1 < x.2.1 * U ∨ x.2.1 * U < val y0
/-- A visitor of type T at block a, with its visit at block v and its box at block bb: P w L says that it lies in the world w and has accounted for the nodes L. -/
structure Vis (T fB fP fV a v kb B N : Nat) (P : World → List (Nat × T3) → Prop) : Prop where
  nB : ∀ w, (nilAhead 266 T (pt a) "Bound").run Tryd.prog w = .ok (some false) w
  nP : ∀ w, (nilAhead 266 T (pt a) "Point").run Tryd.prog w = .ok (some false) w
  nV : ∀ w, (nilAhead 266 T (pt a) "Visit").run Tryd.prog w = .ok (some false) w
  mB : ∀ w, (method 266 T (pt a) "Bound").run Tryd.prog w = .ok (fB, pt a) w
  mP : ∀ w, (method 266 T (pt a) "Point").run Tryd.prog w = .ok (fP, pt a) w
  mV : ∀ w, (method 266 T (pt a) "Visit").run Tryd.prog w = .ok (fV, pt a) w
  eB : ∀ xs w, (callFunc fB xs).run Tryd.prog w = .ok (.enter fB xs) w
  eP : ∀ xs w, (callFunc fP xs).run Tryd.prog w = .ok (.enter fP xs) w
  eV : ∀ xs w, (callFunc fV xs).run Tryd.prog w = .ok (.enter fV xs) w
  vis : ∀ {w L}, P w L → w.heap[v]? = some (.cells #[.iface T (pt a)] 122 (0, 0))
  box : ∀ {w L}, P w L → ∃ x0 y0 x1 y1, IsF x0 (val x0) ∧ IsF y0 (val y0) ∧ IsF x1 (val x1) ∧ IsF y1 (val y1) ∧ w.heap[kb]? = some (.cells #[fl x0, fl y0, fl x1, fl y1] 67 (0, 0)) ∧ ∀ n : List (Nat × T3), (∀ p ∈ n, Sm p.2 ∧ Out p.2 x0 y0 x1 y1) → P w (n ++ L)
  size : ∀ {w L}, P w L → B ≤ w.heap.size
  perm : ∀ {w L L'}, P w L → L.Perm L' → P w L'
  ext : ∀ {w w' L}, P w L → Ext w w' → P w' L
  bound : ∀ {w L}, P w L → Calls Tryd.prog fB #[pt a] w fun e w' => e = .returned (pt kb) ∧ w = w'
  point : ∃ px py vx vy, IsF px vx ∧ IsF py vy ∧ ∀ {w L}, P w L → Calls Tryd.prog fP #[pt a] w fun e w' => e = .returned (.agg #[fl px, fl py]) ∧ Ext w w'
  visit : ∀ {w L} (k : Nat) (x : T3) (c0 c1 c2 c3 : Tr), P w L → L.length < N → k < B → w.heap[k]? = some (.cells #[iv (some x), ptr c0, ptr c1, ptr c2, ptr c3] 105 (0, 0)) → Sm x → Calls Tryd.prog fV #[pt a, pt k] w fun e w' => e = .returned (.tuple #[]) ∧ P w' ((k, x) :: L) ∧ Below B w w'

/-- Whether a tree is none. -/
def nilb : Tr → Bool
  | .nil => true
  | .node .. => false
theorem nilb_run (c : Tr) : ∀ W, (binOp .eql 93 (ptr c) (.pointer none)).run Tryd.prog W = .ok (.bool (nilb c)) W := by
  cases c with
  | nil =>
    intro W
    show (binOp .eql 93 (.pointer none) (.pointer none)).run Tryd.prog W = .ok (.bool true) W
    go_simp
  | node k v c0 c1 c2 c3 =>
    intro W
    show (binOp .eql 93 (.pointer (some ⟨k, 0, none⟩)) (.pointer none)).run Tryd.prog W = .ok (.bool false) W
    go_simp
theorem nilb_guard (c : Tr) : ∀ (n : Nat) W, (eqGuard .eql 93 (.tmp n) (.const (.pointer none)) (ptr c) (.pointer none)).run Tryd.prog W = .ok () W := by
  cases c <;> exact fun _ _ => by kernel_rfl
theorem nilb_nds {c : Tr} (h : nilb c = true) : nds c = [] := by
  cases c with
  | nil => rfl
  | node => cases h

/-- The nodes of n children, from the i-th on. -/
def vl (t : Tr) (i : Nat) : Nat → List (Nat × T3)
  | 0 => []
  | n + 1 => nds (ch ((i + n) % 4) t) ++ vl t i n
theorem vl_all {k : Nat} {u : Option T3} {c0 c1 c2 c3 : Tr} {i : Nat} (hi : i ≤ 3) (L : List (Nat × T3)) : (vl (.node k u c0 c1 c2 c3) i 4 ++ ((u.toList.map fun x => (k, x)) ++ L)).Perm (nds (.node k u c0 c1 c2 c3) ++ L) := by
  rw [← List.append_assoc]
  refine List.Perm.append_right L ?_
  rw [nds]
  refine List.perm_append_comm.trans (List.Perm.append_left _ ?_)
  rw [List.perm_iff_count]
  intro a
  rcases (by omega : i = 0 ∨ i = 1 ∨ i = 2 ∨ i = 3) with rfl | rfl | rfl | rfl <;> simp [vl, ch, List.count_append] <;> omega

theorem vl_len (t : Tr) (i n m : Nat) (h : n ≤ m) : (vl t i n).length ≤ (vl t i m).length := by
  induction h with
  | refl => exact Nat.le_refl _
  | step _ ih => rw [vl, List.length_append]; omega

theorem its_ch {t : Tr} (i : Nat) : ∀ x ∈ its (ch i t), x ∈ its t := fun x hx => by
  obtain ⟨A, B, e, _⟩ := its_append t i .nil
  rw [e]; exact List.mem_append.2 (.inr (List.mem_append.2 (.inl hx)))

/-- What a visit leaves. -/
def VisSays (B : Nat) (P : World → List (Nat × T3) → Prop) (w : World) (L : List (Nat × T3)) (e : Ending) (w' : World) : Prop := e = .returned (.tuple #[]) ∧ P w' L ∧ Below B w w'

set_option maxRecDepth 8000 in
set_option maxHeartbeats 6400000 in
theorem visit_any {T fB fP fV a v kb B N : Nat} {P : World → List (Nat × T3) → Prop} (V : Vis T fB fP fV a v kb B N P) : ∀ (t : Tr) (l r b tp : Nat) (w : World) (L : List (Nat × T3)), t ≠ .nil → At w t → (∀ k ∈ bks t, k < B) → Reg t l r b tp → (∀ x ∈ its t, Sm x) → Bd l → Bd r → Bd b → Bd tp → P w L → (nds t).length + L.length ≤ N →
    Calls Tryd.prog 49 #[pt v, ptr t, fl l, fl r, fl b, fl tp] w (VisSays B P w (nds t ++ L)) := by
  intro t
  induction t with
  | nil => intro _ _ _ _ _ _ h; exact absurd rfl h
  | node k u c0 c1 c2 c3 ih0 ih1 ih2 ih3 =>
    intro l r b tp w L _ hat hB hreg hsm bl br bb bt hP hlen
    obtain ⟨x0, y0, x1, y1, f1, f2, f3, f4, hbox, hpr⟩ := V.box hP
    have o1 := ord_fact bl.1 f3
    have o2 := ord_fact br.1 f1
    have o3 := ord_fact bb.1 f4
    have o4 := ord_fact bt.1 f2
    have IH := Lib.hid (show ∀ i, ∀ (l r b tp : Nat) (w : World) (L : List (Nat × T3)), ch i (.node k u c0 c1 c2 c3) ≠ .nil → At w (ch i (.node k u c0 c1 c2 c3)) → (∀ j ∈ bks (ch i (.node k u c0 c1 c2 c3)), j < B) → Reg (ch i (.node k u c0 c1 c2 c3)) l r b tp → (∀ x ∈ its (ch i (.node k u c0 c1 c2 c3)), Sm x) → Bd l → Bd r → Bd b → Bd tp → P w L → (nds (ch i (.node k u c0 c1 c2 c3))).length + L.length ≤ N →
        Calls Tryd.prog 49 #[pt v, ptr (ch i (.node k u c0 c1 c2 c3)), fl l, fl r, fl b, fl tp] w (VisSays B P w (nds (ch i (.node k u c0 c1 c2 c3)) ++ L)) from fun i => by
      match i with
      | 0 => exact ih0
      | 1 => exact ih1
      | 2 => exact ih2
      | i + 3 => exact ih3)
    have h0 := hat.1
    have C0 := cell_of_blk h0
    have CV := cell_of_blk (V.vis hP)
    have CB := cell_of_blk hbox
    have m1 := V.mB; have e1 := V.eB; have m2 := V.mP; have e2 := V.eP; have m3 := V.mV; have e3 := V.eV
    have HP := Lib.hid hP
    have HL := Lib.hid hlen
    have HV := Lib.hid V
    have HAT := Lib.hid hat; have HBK := Lib.hid hB; have HR := Lib.hid hreg; have HSM := Lib.hid hsm; have H0 := Lib.hid h0
    have HO : ∀ p ∈ nds (.node k u c0 c1 c2 c3), Inr p.2 l r b tp := fun p hp => reg_its hreg p.2 (List.mem_map_of_mem hp)
    have FN := Lib.hid (show (val x1 < val l ∨ val r < val x0 ∨ val y1 < val b ∨ val tp < val y0) → VisSays B P w (nds (.node k u c0 c1 c2 c3) ++ L) (.returned (.tuple #[])) w from fun h => ⟨rfl, hpr _ fun p hp => by
      refine ⟨hsm p.2 (List.mem_map_of_mem hp), ?_⟩
      obtain ⟨q1, q2, q3, q4⟩ := HO p hp
      unfold Out
      generalize U = uu at *
      omega, Below.refl _ _⟩)
    have BND := Lib.hid (show Bd l ∧ Bd r ∧ Bd b ∧ Bd tp from ⟨bl, br, bb, bt⟩)
    obtain ⟨px, py, vx, vy, hpx, hpy, hpt⟩ := V.point
    have HPX := Lib.hid (show IsF px vx ∧ IsF py vy from ⟨hpx, hpy⟩)
    have HPT := Lib.hid (show ∀ w L, P w L → Calls Tryd.prog fP #[pt a] w fun e w' => e = .returned (.agg #[fl px, fl py]) ∧ Ext w w' from fun _ _ h => hpt h)
    obtain ⟨sx, qx, bmx⟩ := mid_run bl br
    obtain ⟨sy, qy, bmy⟩ := mid_run bb bt
    have BM := Lib.hid (show Bd (midw l r) ∧ Bd (midw b tp) from ⟨bmx, bmy⟩)
    clear f1 f2 f3 f4 hbox hpr V ih0 ih1 ih2 ih3 hat hB hreg hsm bl br bb bt hP hlen h0 HO hpx hpy hpt bmx bmy
    change Calls _ _ #[_, pt k, _, _, _, _] _ _
    go_enter Tryd.func49, Tryd.ntmps49
    go_wp2_with fail
    refine (HV.out.bound HP.out).mono ?_
    rintro e w1 ⟨rfl, rfl⟩
    have pruned : ∀ (W : Prop), True := fun _ => trivial
    clear pruned
    by_cases g1 : val x1 < val l
    · have k1 : (FloatKind.f64.format.order l x1 == some .gt) = true := by rw [o1, cmp_gt g1]; rfl
      clear o1 o2 o3 o4 qx qy sx sy
      have FN := Lib.hid (FN.out (.inl g1))
      clear g1
      go_wp2_with fail
      exact bodyPost_ret (v := .tuple #[]) (by simp [results, Tryd.results49, go_sem]) rfl FN.out
    have k1 : (FloatKind.f64.format.order l x1 == some .gt) = false := by rw [o1]; rcases tri (val l) (val x1) with ⟨o, h, ⟨h2, _⟩ | ⟨h2, _⟩ | ⟨h2, h3⟩⟩ <;> rw [h, h2] <;> first | rfl | exact absurd h3 g1
    clear o1 g1
    by_cases g1 : val r < val x0
    · have k2 : (FloatKind.f64.format.order r x0 == some .lt) = true := by rw [o2, cmp_lt g1]; rfl
      clear o2 o3 o4 qx qy sx sy
      have FN := Lib.hid (FN.out (.inr (.inl g1)))
      clear g1
      go_wp2_with fail
      exact bodyPost_ret (v := .tuple #[]) (by simp [results, Tryd.results49, go_sem]) rfl FN.out
    have k2 : (FloatKind.f64.format.order r x0 == some .lt) = false := by rw [o2]; rcases tri (val r) (val x0) with ⟨o, h, ⟨h2, h3⟩ | ⟨h2, _⟩ | ⟨h2, _⟩⟩ <;> rw [h, h2] <;> first | rfl | exact absurd h3 g1
    clear o2 g1
    by_cases g1 : val y1 < val b
    · have k3 : (FloatKind.f64.format.order b y1 == some .gt) = true := by rw [o3, cmp_gt g1]; rfl
      clear o3 o4 qx qy sx sy
      have FN := Lib.hid (FN.out (.inr (.inr (.inl g1))))
      clear g1
      go_wp2_with fail
      exact bodyPost_ret (v := .tuple #[]) (by simp [results, Tryd.results49, go_sem]) rfl FN.out
    have k3 : (FloatKind.f64.format.order b y1 == some .gt) = false := by rw [o3]; rcases tri (val b) (val y1) with ⟨o, h, ⟨h2, _⟩ | ⟨h2, _⟩ | ⟨h2, h3⟩⟩ <;> rw [h, h2] <;> first | rfl | exact absurd h3 g1
    clear o3 g1
    by_cases g1 : val tp < val y0
    · have k4 : (FloatKind.f64.format.order tp y0 == some .lt) = true := by rw [o4, cmp_lt g1]; rfl
      clear o4 qx qy sx sy
      have FN := Lib.hid (FN.out (.inr (.inr (.inr g1))))
      clear g1
      go_wp2_with fail
      exact bodyPost_ret (v := .tuple #[]) (by simp [results, Tryd.results49, go_sem]) rfl FN.out
    have k4 : (FloatKind.f64.format.order tp y0 == some .lt) = false := by rw [o4]; rcases tri (val tp) (val y0) with ⟨o, h, ⟨h2, h3⟩ | ⟨h2, _⟩ | ⟨h2, _⟩⟩ <;> rw [h, h2] <;> first | rfl | exact absurd h3 g1
    clear o4 g1 FN
    have qg : ∀ W, (eqGuard .neq 77 (.tmp 60) (.const .nilIface) (iv u) .nilIface).run Tryd.prog W = .ok () W := by cases u <;> exact fun _ => rfl
    have qn : ∀ W, (binOp .neq 77 (iv u) .nilIface).run Tryd.prog W = .ok (.bool u.isSome) W := by cases u <;> exact fun _ => rfl
    go_upto_if 61 with fail
    clear k1 k2 k3 k4 qg qn CB
    go_cut [] from 62 (fun wc => P wc ((u.toList.map fun x => (k, x)) ++ L) ∧ Below B w wc)
    case first =>
      rcases u with _ | x
      · go_wp2_with fail
        go_meet
        exact ⟨by simpa using HP.out, Below.refl _ _⟩
      · go_wp2_with fail
        refine (HV.out.visit k x c0 c1 c2 c3 HP.out (by have := HL.out; simp [nds] at this; omega) (HBK.out k (by simp [bks])) H0.out (HSM.out x (by simp [its_node]))).mono ?_
        rintro e w1 ⟨rfl, hP1, hb1⟩
        have H1 := Lib.hid hP1
        clear hP1
        go_wp2_with fail
        go_meet
        exact ⟨by simpa using H1.out, hb1⟩
    case rest =>
      obtain ⟨hP1, hb1⟩ := hcut
      have X0 : ∀ j, j < B → wc.heap[j]? = w.heap[j]? := fun j hj => hb1.block j hj
      have HAT1 := Lib.hid (HAT.out.frame fun j hj => X0 j (HBK.out j hj))
      have C1 := cell_of_blk HAT1.out.1
      have CV1 := cell_of_blk (HV.out.vis hP1)
      have HP1 := Lib.hid hP1; have HB1 := Lib.hid hb1
      clear hP1 hb1 X0 C0 CV
      generalize hown : (u.toList.map fun x => (k, x)) ++ L = L1 at *
      have HOWN := Lib.hid hown; clear hown
      have HLEN := Lib.hid (show ∀ i n j, i ≤ 3 → n < 4 → (i + n) % 4 = j → (nds (ch j (.node k u c0 c1 c2 c3))).length + (vl (.node k u c0 c1 c2 c3) i n ++ L1).length ≤ N from fun i n j hi hn hj => by
        have h1 := (vl_all (k := k) (u := u) (c0 := c0) (c1 := c1) (c2 := c2) (c3 := c3) hi L).length_eq
        have h2 := vl_len (.node k u c0 c1 c2 c3) i (n + 1) 4 (by omega)
        have h3 := HL.out
        rw [vl, hj] at h2
        rw [← HOWN.out]
        simp only [List.length_append] at h1 h2 ⊢
        omega)
      have q0 : ∀ W, (binOp .eql 93 (ptr c0) (.pointer none)).run Tryd.prog W = .ok (.bool (nilb c0)) W := nilb_run c0
      have q1 : ∀ W, (binOp .eql 93 (ptr c1) (.pointer none)).run Tryd.prog W = .ok (.bool (nilb c1)) W := nilb_run c1
      have q2 : ∀ W, (binOp .eql 93 (ptr c2) (.pointer none)).run Tryd.prog W = .ok (.bool (nilb c2)) W := nilb_run c2
      have q3 : ∀ W, (binOp .eql 93 (ptr c3) (.pointer none)).run Tryd.prog W = .ok (.bool (nilb c3)) W := nilb_run c3
      have z0 := nilb_guard c0; have z1 := nilb_guard c1; have z2 := nilb_guard c2; have z3 := nilb_guard c3
      go_upto_region 4 with fail
      go_cut [97] from 98 (fun s wx => s = .bool (nilb c0 && (nilb c1 && (nilb c2 && nilb c3))) ∧ wx = wc)
      case first =>
        generalize nilb c0 = n0 at *
        generalize nilb c1 = n1 at *
        generalize nilb c2 = n2 at *
        generalize nilb c3 = n3 at *
        rcases n0 <;> rcases n1 <;> rcases n2 <;> rcases n3 <;> (go_wp2_with fail; go_meet; exact ⟨rfl, rfl⟩)
      case rest =>
        obtain ⟨rfl, rfl⟩ := hcut
        clear q0 q1 q2 q3 z0 z1 z2 z3
        by_cases hn : (nilb c0 && (nilb c1 && (nilb c2 && nilb c3))) = true
        · have HN := Lib.hid hn
          rw [hn]
          clear hn
          go_wp2_with fail
          refine bodyPost_ret (v := .tuple #[]) (by simp [results, Tryd.results49, go_sem]) rfl ?_
          have h := HN.out
          simp only [Bool.and_eq_true] at h
          obtain ⟨h0, h1, h2, h3⟩ := h
          refine ⟨rfl, ?_, HB1.out⟩
          have e : nds (.node k u c0 c1 c2 c3) ++ L = L1 := by rw [← HOWN.out, nds, nilb_nds h0, nilb_nds h1, nilb_nds h2, nilb_nds h3]; simp
          rw [e]; exact HP1.out
        · rw [Bool.not_eq_true] at hn
          rw [hn]
          clear hn
          go_wp2_with fail
          refine (HPT.out _ _ HP1.out).mono ?_
          rintro e w2 ⟨rfl, hx2⟩
          go_wp2_with fail
          refine (child_any _ _ px py _ _ _ _ _ BM.out.1.1 BM.out.2.1 HPX.out.1 HPX.out.2).mono ?_
          rintro e w3 ⟨⟨i, rfl, hi0, hi3⟩, hx3⟩
          obtain ⟨i, rfl⟩ : ∃ n : Nat, i = n := ⟨i.toNat, by omega⟩
          have hb3 : Below B w w3 := (HB1.out.trans (Below.mono hx2 (HV.out.size HP1.out))).trans (Below.mono hx3 (Nat.le_trans (HV.out.size HP1.out) hx2.size))
          have hP3 := HV.out.ext HP1.out (hx2.trans hx3)
          have HB3 := Lib.hid hb3; have HP3 := Lib.hid hP3
          clear hb3 hP3 hx2 hx3 HB1 HP1 HAT1 C1 CV1 sx sy qx qy m2 e2
          go_wp2_with fail
          go_loopg [16] 4 (fun r jv wr => ∃ n : Nat, r + n = 4 ∧ jv = .int .i64 ((i + n : Nat) : Int) ∧ P wr (vl (.node k u c0 c1 c2 c3) i n ++ L1) ∧ Below B w wr)
          case atStart => exact ⟨0, rfl, rfl, HP3.out, HB3.out⟩
          case round =>
            obtain ⟨n, hrn, rfl, hPr, hBr⟩ := hrel
            have HATr := Lib.hid (HAT.out.frame fun j hj => hBr.block j (HBK.out j hj))
            have HPr := Lib.hid hPr; have HBr := Lib.hid hBr
            clear hPr hBr
            by_cases hn : n = 4
            · subst hn
              go_wp2
              refine bodyPost_ret (v := .tuple #[]) (by simp [results, Tryd.results49, go_sem]) rfl ?_
              refine ⟨rfl, HV.out.perm HPr.out ?_, HBr.out⟩
              rw [← HOWN.out]
              exact vl_all (by omega) L
            · have hn4 : n < 4 := by omega
              rcases (by omega : (i + n) % 4 = 0 ∨ (i + n) % 4 = 1 ∨ (i + n) % 4 = 2 ∨ (i + n) % 4 = 3) with hc | hc | hc | hc
              · rcases c0 with _ | ⟨k', u', d0, d1, d2, d3⟩
                · have C2 := cell_of_blk (show wr.heap[k]? = some (.cells #[iv u, .pointer none, ptr c1, ptr c2, ptr c3] 105 (0, 0)) from HATr.out.1)
                  go_wp2_with fail
                  go_roundg (gk - 1)
                  case measure => omega
                  case rel => exact ⟨n + 1, by omega, by go_num, by rw [vl, hc]; exact HPr.out, HBr.out⟩
                · have C2 := cell_of_blk (show wr.heap[k]? = some (.cells #[iv u, pt k', ptr c1, ptr c2, ptr c3] 105 (0, 0)) from HATr.out.1)
                  go_wp2_with fail
                  refine (IH.out 0 l (midw l r) (midw b tp) tp wr _ (by simp [ch]) (at_ch HATr.out 0) (fun j hj => HBK.out j (bks_ch (t := (.node k u (.node k' u' d0 d1 d2 d3) c1 c2 c3)) 0 j hj)) (reg_ch HR.out 0) (fun x hx => HSM.out x (its_ch 0 x hx)) BND.out.1 BM.out.1 BM.out.2 BND.out.2.2.2 HPr.out (HLEN.out i n 0 (by omega) hn4 hc)).mono ?_
                  rintro e w5 ⟨rfl, hP5, hb5⟩
                  have HP5 := Lib.hid (show P w5 (vl (.node k u (.node k' u' d0 d1 d2 d3) c1 c2 c3) i (n + 1) ++ L1) from by rw [vl, hc, List.append_assoc]; exact hP5)
                  have HB5 := Lib.hid (HBr.out.trans hb5)
                  clear hP5 hb5
                  go_wp2_with fail
                  go_roundg (gk - 1)
                  case measure => omega
                  case rel => exact ⟨n + 1, by omega, by go_num, HP5.out, HB5.out⟩
              · rcases c1 with _ | ⟨k', u', d0, d1, d2, d3⟩
                · have C2 := cell_of_blk (show wr.heap[k]? = some (.cells #[iv u, ptr c0, .pointer none, ptr c2, ptr c3] 105 (0, 0)) from HATr.out.1)
                  go_wp2_with fail
                  go_roundg (gk - 1)
                  case measure => omega
                  case rel => exact ⟨n + 1, by omega, by go_num, by rw [vl, hc]; exact HPr.out, HBr.out⟩
                · have C2 := cell_of_blk (show wr.heap[k]? = some (.cells #[iv u, ptr c0, pt k', ptr c2, ptr c3] 105 (0, 0)) from HATr.out.1)
                  go_wp2_with fail
                  refine (IH.out 1 (midw l r) r (midw b tp) tp wr _ (by simp [ch]) (at_ch HATr.out 1) (fun j hj => HBK.out j (bks_ch (t := (.node k u c0 (.node k' u' d0 d1 d2 d3) c2 c3)) 1 j hj)) (reg_ch HR.out 1) (fun x hx => HSM.out x (its_ch 1 x hx)) BM.out.1 BND.out.2.1 BM.out.2 BND.out.2.2.2 HPr.out (HLEN.out i n 1 (by omega) hn4 hc)).mono ?_
                  rintro e w5 ⟨rfl, hP5, hb5⟩
                  have HP5 := Lib.hid (show P w5 (vl (.node k u c0 (.node k' u' d0 d1 d2 d3) c2 c3) i (n + 1) ++ L1) from by rw [vl, hc, List.append_assoc]; exact hP5)
                  have HB5 := Lib.hid (HBr.out.trans hb5)
                  clear hP5 hb5
                  go_wp2_with fail
                  go_roundg (gk - 1)
                  case measure => omega
                  case rel => exact ⟨n + 1, by omega, by go_num, HP5.out, HB5.out⟩
              · rcases c2 with _ | ⟨k', u', d0, d1, d2, d3⟩
                · have C2 := cell_of_blk (show wr.heap[k]? = some (.cells #[iv u, ptr c0, ptr c1, .pointer none, ptr c3] 105 (0, 0)) from HATr.out.1)
                  go_wp2_with fail
                  go_roundg (gk - 1)
                  case measure => omega
                  case rel => exact ⟨n + 1, by omega, by go_num, by rw [vl, hc]; exact HPr.out, HBr.out⟩
                · have C2 := cell_of_blk (show wr.heap[k]? = some (.cells #[iv u, ptr c0, ptr c1, pt k', ptr c3] 105 (0, 0)) from HATr.out.1)
                  go_wp2_with fail
                  refine (IH.out 2 l (midw l r) b (midw b tp) wr _ (by simp [ch]) (at_ch HATr.out 2) (fun j hj => HBK.out j (bks_ch (t := (.node k u c0 c1 (.node k' u' d0 d1 d2 d3) c3)) 2 j hj)) (reg_ch HR.out 2) (fun x hx => HSM.out x (its_ch 2 x hx)) BND.out.1 BM.out.1 BND.out.2.2.1 BM.out.2 HPr.out (HLEN.out i n 2 (by omega) hn4 hc)).mono ?_
                  rintro e w5 ⟨rfl, hP5, hb5⟩
                  have HP5 := Lib.hid (show P w5 (vl (.node k u c0 c1 (.node k' u' d0 d1 d2 d3) c3) i (n + 1) ++ L1) from by rw [vl, hc, List.append_assoc]; exact hP5)
                  have HB5 := Lib.hid (HBr.out.trans hb5)
                  clear hP5 hb5
                  go_wp2_with fail
                  go_roundg (gk - 1)
                  case measure => omega
                  case rel => exact ⟨n + 1, by omega, by go_num, HP5.out, HB5.out⟩
              · rcases c3 with _ | ⟨k', u', d0, d1, d2, d3⟩
                · have C2 := cell_of_blk (show wr.heap[k]? = some (.cells #[iv u, ptr c0, ptr c1, ptr c2, .pointer none] 105 (0, 0)) from HATr.out.1)
                  go_wp2_with fail
                  go_roundg (gk - 1)
                  case measure => omega
                  case rel => exact ⟨n + 1, by omega, by go_num, by rw [vl, hc]; exact HPr.out, HBr.out⟩
                · have C2 := cell_of_blk (show wr.heap[k]? = some (.cells #[iv u, ptr c0, ptr c1, ptr c2, pt k'] 105 (0, 0)) from HATr.out.1)
                  go_wp2_with fail
                  refine (IH.out 3 (midw l r) r b (midw b tp) wr _ (by simp [ch]) (at_ch HATr.out 3) (fun j hj => HBK.out j (bks_ch (t := (.node k u c0 c1 c2 (.node k' u' d0 d1 d2 d3))) 3 j hj)) (reg_ch HR.out 3) (fun x hx => HSM.out x (its_ch 3 x hx)) BM.out.1 BND.out.2.1 BND.out.2.2.1 BM.out.2 HPr.out (HLEN.out i n 3 (by omega) hn4 hc)).mono ?_
                  rintro e w5 ⟨rfl, hP5, hb5⟩
                  have HP5 := Lib.hid (show P w5 (vl (.node k u c0 c1 c2 (.node k' u' d0 d1 d2 d3)) i (n + 1) ++ L1) from by rw [vl, hc, List.append_assoc]; exact hP5)
                  have HB5 := Lib.hid (HBr.out.trans hb5)
                  clear hP5 hb5
                  go_wp2_with fail
                  go_roundg (gk - 1)
                  case measure => omega
                  case rel => exact ⟨n + 1, by omega, by go_num, HP5.out, HB5.out⟩

end Go.Proofs.YtmmmknmncdlopaaDoor
