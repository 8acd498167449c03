/- Slices of tiles: how they are read. Conditions: the slice reads as the list. -/
import Derived.Test.YtdkknlnlfaoapaaRegionE
import Derived.Deep.LoopGhost
namespace Go.Proofs.Ytdkknlnlfaoapaa
open Go.ChangeShapes Go.WideShapes Go.ChangeAt Go.RowKit

/-- A tile of the thin package: column, row, zoom. -/
abbrev T3 := Int × Int × Int

/-- The slice value v reads as the list of tiles, in whatever memory. -/
def Reads (w : World) (v : Value) (ts : List T3) : Prop :=
  (v = .slice none 0 0 ∧ ts = []) ∨ ∃ b off cap, v = .slice (some ⟨b, off, none⟩) ts.length cap ∧ ts.length ≤ cap ∧ cap ≤ maxLen ∧
    ∀ i t, ts[i]? = some t → w.cell? ⟨b, off + i * 3, none⟩ = some (.int .i64 t.1) ∧ w.cell? ⟨b, off + i * 3 + 1, none⟩ = some (.int .i64 t.2.1) ∧ w.cell? ⟨b, off + i * 3 + 2, none⟩ = some (.int .i64 t.2.2)

set_option maxHeartbeats 800000 in
theorem has_some (b off cap : Nat) (ts : List T3) (x y z : Int) (w : World) (h1 : ts.length ≤ cap) (h2 : cap ≤ maxLen)
    (hc : ∀ i t, ts[i]? = some t → w.cell? ⟨b, off + i * 3, none⟩ = some (.int .i64 t.1) ∧ w.cell? ⟨b, off + i * 3 + 1, none⟩ = some (.int .i64 t.2.1) ∧ w.cell? ⟨b, off + i * 3 + 2, none⟩ = some (.int .i64 t.2.2)) :
    Calls Try.prog 12 #[.slice (some ⟨b, off, none⟩) ts.length cap, .agg #[.int .i64 x, .int .i64 y, .int .i64 z]] w fun e w' => e = .returned (.bool (decide ((x, y, z) ∈ ts))) ∧ Ext w w' := by
  unfold maxLen at h2
  have he := eq_tile
  have HC := Lib.hid hc; clear hc
  go_enter Try.func12, Try.ntmps12
  go_wp2
  go_loopg [9] ts.length (fun r i wr => ∃ j : Nat, r + j = ts.length ∧ i = .int .i64 j ∧ (x, y, z) ∉ ts.take j ∧ Ext (w.alloc (.cells #[.int .i64 x, .int .i64 y, .int .i64 z] 28)) wr)
  case atStart => exact ⟨0, by omega, rfl, by simp, Ext.refl _⟩
  case round =>
    obtain ⟨j, hj, rfl, hnot, hwr⟩ := hrel
    obtain ⟨n0, n1, n2⟩ := new3 hwr
    by_cases hlt : j < ts.length
    · have hl : ((j : Int) < (ts.length : Int)) := by omega
      obtain ⟨t, ht⟩ : ∃ t, ts[j]? = some t := ⟨_, List.getElem?_eq_getElem hlt⟩
      obtain ⟨c0, c1, c2⟩ := HC.out j t ht
      have hw0 := (Ext.refl w).alloc (.cells #[.int .i64 x, .int .i64 y, .int .i64 z] 28)
      have d0 := Ext.cell (hw0.trans hwr) c0
      have d1 := Ext.cell (hw0.trans hwr) c1
      have d2 := Ext.cell (hw0.trans hwr) c2
      clear c0 c1 c2
      obtain ⟨a, b', c⟩ := t
      have HT := Lib.hid ht; have HN := Lib.hid hnot
      have HJ := Lib.hid hj
      clear ht hnot
      dsimp only at d0 d1 d2
      by_cases h : (a, b', c) = (x, y, z)
      · obtain ⟨rfl, rfl, rfl⟩ : a = x ∧ b' = y ∧ c = z := by simpa using h
        clear h
        have HM := Lib.hid (show (a, b', c) ∈ ts from List.mem_of_getElem? HT.out)
        go_wp2
        go_ret
        exact ⟨by simp [HM.out], (hw0.trans hwr).alloc _⟩
      · have hd : (a == x && (b' == y && c == z)) = false := by
          rw [Bool.eq_false_iff]; intro h2; simp at h2; exact h (by simp [h2])
        have HM := Lib.hid (show (x, y, z) ∉ ts.take (j + 1) by
          rw [List.take_add_one, HT.out]; simp only [Option.toList_some, List.mem_append, List.mem_singleton, not_or]; exact ⟨HN.out, fun e => h e.symm⟩)
        clear h
        by_cases hax : a = x
        · subst hax
          by_cases hby : b' = y
          · subst hby
            have hcz : (c == z) = false := by simpa using hd
            clear hd
            go_wp2
            go_roundg (gk - 1)
            case measure => omega
            case rel => exact ⟨j + 1, by omega, by go_num, HM.out, hwr.alloc _⟩
          · have hby' : (b' == y) = false := by simpa using hby
            clear hd hby
            go_wp2
            go_roundg (gk - 1)
            case measure => omega
            case rel => exact ⟨j + 1, by omega, by go_num, HM.out, hwr.alloc _⟩
        · have hax' : (a == x) = false := by simpa using hax
          clear hd hax
          go_wp2
          go_roundg (gk - 1)
          case measure => omega
          case rel => exact ⟨j + 1, by omega, by go_num, HM.out, hwr.alloc _⟩
    · have hjl : j = ts.length := by omega
      subst hjl
      have HN := Lib.hid hnot; clear hnot
      go_wp2
      go_ret
      have := HN.out
      rw [List.take_length] at this
      exact ⟨by simp [this], ((Ext.refl w).alloc _).trans hwr⟩

/-- Has, of whatever slice reads as a list. -/
theorem has_any (v : Value) (ts : List T3) (x y z : Int) (w : World) (h : Reads w v ts) :
    Calls Try.prog 12 #[v, .agg #[.int .i64 x, .int .i64 y, .int .i64 z]] w fun e w' => e = .returned (.bool (decide ((x, y, z) ∈ ts))) ∧ Ext w w' := by
  rcases h with ⟨rfl, rfl⟩ | ⟨b, off, cap, rfl, h1, h2, hc⟩
  · go_enter Try.func12, Try.ntmps12
    go_wp2
    go_loopg [9] 0 (fun r i wr => i = .int .i64 0 ∧ wr = w.alloc (.cells #[.int .i64 x, .int .i64 y, .int .i64 z] 28))
    case atStart => exact ⟨rfl, rfl⟩
    case round =>
      obtain ⟨rfl, rfl⟩ := hrel
      go_wp2
      go_ret
      exact ⟨by simp, (Ext.refl w).alloc _⟩
  · exact has_some b off cap ts x y z w h1 h2 hc

theorem Reads.ext {w w' : World} {v : Value} {ts : List T3} (h : Reads w v ts) (hx : Ext w w') : Reads w' v ts := by
  rcases h with h | ⟨b, off, cap, h0, h1, h2, hc⟩
  · exact .inl h
  · exact .inr ⟨b, off, cap, h0, h1, h2, fun i t ht => by
      obtain ⟨a, b, c⟩ := hc i t ht
      exact ⟨hx.cell a, hx.cell b, hx.cell c⟩⟩
theorem Reads.take {w : World} {b off n cap : Nat} {ts : List T3} (h : Reads w (.slice (some ⟨b, off, none⟩) n cap) ts) (k : Nat) (hk : k ≤ n) : Reads w (.slice (some ⟨b, off, none⟩) k cap) (ts.take k) := by
  rcases h with ⟨h, _⟩ | ⟨b', off', cap', h0, h1, h2, hc⟩
  · cases h
  · cases h0
    refine .inr ⟨b, off, cap, ?_, ?_, h2, fun i t ht => ?_⟩
    · rw [List.length_take, Nat.min_eq_left hk]
    · rw [List.length_take]; omega
    · rw [List.getElem?_take] at ht
      split at ht
      · exact hc i t ht
      · cases ht

/-- What stands in the cells of a slice that reads as a list. -/
theorem Reads.some {w : World} {b off n cap : Nat} {ts : List T3} (h : Reads w (.slice (some ⟨b, off, none⟩) n cap) ts) : n = ts.length ∧ ts.length ≤ cap ∧ cap ≤ maxLen ∧
    ∀ i t, ts[i]? = some t → w.cell? ⟨b, off + i * 3, none⟩ = some (.int .i64 t.1) ∧ w.cell? ⟨b, off + i * 3 + 1, none⟩ = some (.int .i64 t.2.1) ∧ w.cell? ⟨b, off + i * 3 + 2, none⟩ = some (.int .i64 t.2.2) := by
  rcases h with ⟨h, _⟩ | ⟨b', off', cap', h0, h1, h2, hc⟩
  · cases h
  · cases h0; exact ⟨rfl, h1, h2, hc⟩

set_option maxHeartbeats 1600000 in
theorem same_some (b off cap b' off' cap' : Nat) (ts us : List T3) (w : World) (hts : Reads w (.slice (some ⟨b, off, none⟩) ts.length cap) ts) (hus : Reads w (.slice (some ⟨b', off', none⟩) us.length cap') us)
    (nd : ts.Nodup) (h1 : ∀ t ∈ ts, t ∈ us) (h2 : ∀ t ∈ us, t ∈ ts) :
    Calls Try.prog 8 #[.slice (some ⟨b, off, none⟩) ts.length cap, .slice (some ⟨b', off', none⟩) us.length cap'] w fun e w' => e = .returned (.bool true) ∧ Ext w w' := by
  obtain ⟨-, p1, p2, hc⟩ := hts.some
  obtain ⟨-, q1, q2, hd⟩ := hus.some
  unfold maxLen at p2 q2
  have HC := Lib.hid hc; have HD := Lib.hid hd; have ND := Lib.hid nd; have H1 := Lib.hid h1; have H2 := Lib.hid h2
  have HT := Lib.hid hts; have HU := Lib.hid hus
  clear hc hd nd h1 h2 hts hus
  go_enter Try.func8, Try.ntmps8
  go_wp2
  go_loopg [11] ts.length (fun r i wr => ∃ j : Nat, r + j = ts.length ∧ i = .int .i64 j ∧ Ext w wr)
  case atStart => exact ⟨0, by omega, rfl, Ext.refl _⟩
  case round =>
    obtain ⟨j, hj, rfl, hwr⟩ := hrel
    by_cases hlt : j < ts.length
    · have hl : ((j : Int) < (ts.length : Int)) := by omega
      obtain ⟨t, ht⟩ : ∃ t, ts[j]? = some t := ⟨_, List.getElem?_eq_getElem hlt⟩
      obtain ⟨c0, c1, c2⟩ := HC.out j t ht
      have d0 := Ext.cell hwr c0
      have d1 := Ext.cell hwr c1
      have d2 := Ext.cell hwr c2
      clear c0 c1 c2
      have hin := H1.out t (List.mem_of_getElem? ht)
      have hno : t ∉ ts.take j := by
        intro hm
        obtain ⟨i, hi, hi2⟩ := List.mem_iff_getElem.1 hm
        rw [List.length_take] at hi
        rw [List.getElem_take] at hi2
        have e2 : ts[j] = t := by rw [List.getElem?_eq_getElem hlt] at ht; exact Option.some.inj ht
        exact (List.pairwise_iff_getElem.1 ND.out) i j (by omega) hlt (by omega) (hi2.trans e2.symm)
      obtain ⟨a, b2, c⟩ := t
      have A1 := Lib.hid (fun (e : Later (wr.alloc (.cells #[.int .i64 a, .int .i64 b2, .int .i64 c] 28))) => has_any _ us a b2 c e.w (HU.out.ext ((hwr.alloc _).trans e.h)))
      have A2 := Lib.hid (fun (e : Later (wr.alloc (.cells #[.int .i64 a, .int .i64 b2, .int .i64 c] 28))) => has_any _ (ts.take j) a b2 c e.w ((HT.out.take j (by omega)).ext ((hwr.alloc _).trans e.h)))
      rw [show decide ((a, b2, c) ∈ us) = true by simp [hin]] at A1
      rw [show decide ((a, b2, c) ∈ ts.take j) = false by simp [hno]] at A2
      have HJ := Lib.hid hj
      clear ht hin hno
      dsimp only at d0 d1 d2
      go_wp2
      refine region_ext (by kernel_rfl) (by kernel_rfl) (fun hc => ?_)
      repeat (go_big_quiet_step (first | (go_at_call 12; with_reducible exact Calls.later (A1.out _)) | (go_at_call 12; exact Calls.later (A2.out _))))
      refine wpQuiet_nil ?_
      rintro w3 ⟨⟨_, hw3⟩, rfl⟩
      go_wp2
      go_roundg (gk - 1)
      case measure => omega
      case rel => exact ⟨j + 1, by omega, by go_num, (hwr.alloc _).trans hw3⟩
    · have hjl : j = ts.length := by omega
      subst hjl
      clear ND HC H1
      obtain ⟨wo, rfl⟩ : ∃ wo : World, wo = wr := ⟨_, rfl⟩
      go_wp2
      go_loopg [30] us.length (fun r i wr => ∃ j : Nat, r + j = us.length ∧ i = .int .i64 j ∧ Ext w wr)
      case atStart => exact ⟨0, by omega, rfl, hwr⟩
      case round =>
        obtain ⟨j, hj, rfl, hwr⟩ := hrel
        by_cases hlt : j < us.length
        · have hl : ((j : Int) < (us.length : Int)) := by omega
          obtain ⟨t, ht⟩ : ∃ t, us[j]? = some t := ⟨_, List.getElem?_eq_getElem hlt⟩
          obtain ⟨c0, c1, c2⟩ := HD.out j t ht
          have d0 := Ext.cell hwr c0
          have d1 := Ext.cell hwr c1
          have d2 := Ext.cell hwr c2
          clear c0 c1 c2
          have hin := H2.out t (List.mem_of_getElem? ht)
          obtain ⟨a, b2, c⟩ := t
          have A1 := Lib.hid (has_any _ ts a b2 c (wr.alloc (.cells #[.int .i64 a, .int .i64 b2, .int .i64 c] 28)) (HT.out.ext (hwr.alloc _)))
          rw [show decide ((a, b2, c) ∈ ts) = true by simp [hin]] at A1
          have HJ := Lib.hid hj
          clear ht hin
          dsimp only at d0 d1 d2
          go_wp2_with (go_at_call 12; refine A1.out.mono ?_; rintro e w3 ⟨rfl, hw3⟩)
          go_roundg (gk - 1)
          case measure => omega
          case rel => exact ⟨j + 1, by omega, by go_num, (hwr.alloc _).trans hw3⟩
        · have hjl : j = us.length := by omega
          subst hjl
          go_wp2
          go_ret
          exact ⟨rfl, hwr⟩

end Go.Proofs.Ytdkknlnlfaoapaa
