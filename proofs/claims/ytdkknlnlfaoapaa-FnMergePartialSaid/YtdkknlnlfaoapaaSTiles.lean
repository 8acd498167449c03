/- spec.Tiles: different tiles of one zoom that bytes tell. Conditions: the bytes' kind. -/
import Derived.Test.YtdkknlnlfaoapaaOwns
import Derived.Test.YtdkknlnlfaoapaaMergeMath
import Derived.BigRegion
namespace Go.Proofs.Ytdkknlnlfaoapaa
open Go.ChangeShapes Go.WideShapes Go.ChangeAt Go.RowKit

/-- The slice value reads as a list of bytes. -/
def Bytes (w : World) (v : Value) (zs : List Int) : Prop :=
  ∃ (a : Option Addr) (cap : Nat), v = .slice a zs.length cap ∧ zs.length ≤ cap ∧ cap ≤ maxLen ∧
    (zs ≠ [] → ∃ b off, a = some ⟨b, off, none⟩ ∧ ∀ i x, zs[i]? = some x → w.cell? ⟨b, off + i, none⟩ = some (.int .u8 x) ∧ 0 ≤ x ∧ x ≤ 255)

/-- The list is one of different tiles of zoom n. -/
def TilesSays (w : World) (n : Nat) (e : Ending) (w' : World) : Prop :=
  ∃ g cap ts, e = .returned (.tuple #[.slice (some ⟨g, 0, none⟩) ts.length cap, .int .i64 (n : Nat)]) ∧ Reads w' (.slice (some ⟨g, 0, none⟩) ts.length cap) ts ∧ ts.Nodup ∧ (∀ t ∈ ts, lev n t) ∧ ts.length ≤ 601 ∧ Ext w w'

theorem two_pow5 (n : Nat) (h : n ≤ 5) : (0 : Int) < 2 ^ n ∧ (2 : Int) ^ n ≤ 32 := by
  have h1 : (2 : Int) ^ n ≤ 2 ^ 5 := by exact_mod_cast Nat.pow_le_pow_right (by omega) h
  have h2 : (0 : Int) < 2 ^ n := by exact_mod_cast Nat.pow_pos (by omega)
  omega

set_option maxRecDepth 8000 in
set_option maxHeartbeats 3200000 in
theorem stiles_some (b off cap : Nat) (zs : List Int) (z : Int) (n : Nat) (w : World) (h1 : zs.length ≤ cap) (h2 : cap ≤ maxLen) (hz0 : 0 ≤ z) (hz1 : z ≤ 255) (hn : z % 6 = n)
    (hc : ∀ i x, zs[i]? = some x → w.cell? ⟨b, off + i, none⟩ = some (.int .u8 x) ∧ 0 ≤ x ∧ x ≤ 255) :
    Calls Try.prog 6 #[.slice (some ⟨b, off, none⟩) zs.length cap, .int .u8 z] w (TilesSays w n) := by
  unfold maxLen at h2
  have HC := Lib.hid hc; clear hc
  have hn5 : n ≤ 5 := by omega
  obtain ⟨hp0, hp1⟩ := two_pow5 (z % 6).toNat (by omega)
  generalize hm : (2 : Int) ^ (z % 6).toNat = m at *
  have hw : IntKind.i64.wrap m = m := IntWalk.i64_in _ (by omega)
  have hne : ¬ m = 0 := by omega
  have HN := Lib.hid hn
  clear hn
  have hq0 : 0 ≤ z % 6 := by omega
  have hq1 : z % 6 ≤ 5 := by omega
  go_enter Try.func6, Try.ntmps6
  go_wp2
  go_loopg [7, 8] 601 (fun r out iv wr => ∃ (i : Nat) (g c : Nat) (ts : List T3), r = 601 - i ∧ iv = .int .i64 (i : Nat) ∧ i ≤ 601 ∧ out = .slice (some ⟨g, 0, none⟩) ts.length c ∧ Owns wr w.heap.size 28 .i64 (.slice (some ⟨g, 0, none⟩) ts.length c) ts ∧ ts.Nodup ∧ (∀ t ∈ ts, lev (z % 6) t) ∧ ts.length ≤ i ∧ Ext w wr)
  case atStart => exact ⟨0, w.heap.size, 0, [], rfl, rfl, by omega, rfl, by simpa [cells3] using Owns.lit w 28 .i64 [] w.heap.size (Nat.le_refl _) (by simp [maxLen]), by simp, by simp, by simp, (Ext.refl _).alloc _⟩
  case round =>
    obtain ⟨i, g, c, ts, rfl, rfl, hi, rfl, hown, nd, hlev, hlen, hwr⟩ := hrel
    have HO := Lib.hid hown; have ND := Lib.hid nd; have HL := Lib.hid hlev
    clear hown nd hlev
    by_cases hlt : i + 1 < zs.length ∧ i < 600
    · obtain ⟨hl1, hl2⟩ := hlt
      obtain ⟨x, hx⟩ : ∃ x, zs[i]? = some x := ⟨_, List.getElem?_eq_getElem (by omega)⟩
      obtain ⟨y, hy⟩ : ∃ y, zs[i + 1]? = some y := ⟨_, List.getElem?_eq_getElem hl1⟩
      obtain ⟨c0, x0, x1⟩ := HC.out i x hx
      obtain ⟨c1, y0, y1⟩ := HC.out (i + 1) y hy
      replace c0 := hwr.cell c0; replace c1 := hwr.cell c1
      clear hx hy
      have bw : b < wr.heap.size := World.block_lt_of_cell? wr _ c0
      have bn : b ≠ wr.heap.size := by omega
      have hl0 : i < zs.length := by omega
      have hmx : x.tmod m = x % m := Int.tmod_eq_emod_of_nonneg x0
      have hmy : y.tmod m = y % m := Int.tmod_eq_emod_of_nonneg y0
      have hx2 : x % m < m := Int.emod_lt_of_pos _ hp0
      have hy2 : y % m < m := Int.emod_lt_of_pos _ hp0
      have hx3 : 0 ≤ x % m := Int.emod_nonneg _ hne
      have hy3 : 0 ≤ y % m := Int.emod_nonneg _ hne
      have d1 : decide ((i : Int) + 1 < zs.length) = true := by simp; omega
      have d2 : decide (i + 1 < zs.length) = true := by simp; omega
      have d3 : decide ((i : Int) < 600) = true := by simp; omega
      have d4 : decide (i < 600) = true := by simp; omega
      go_wp2
      go_region
      have BT := Lib.hid (blk_new wr (.cells #[.int .i64 (x % m), .int .i64 (y % m), .int .i64 (z % 6)] 28))
      have XT := Lib.hid (((Ext.refl wr).alloc (.cells #[.int .i64 (x % m), .int .i64 (y % m), .int .i64 (z % 6)] 28)).drew)
      have hb0 : w.heap.size ≤ wr.heap.size := hwr.size
      by_cases hmem : ((x % m, y % m, z % 6) : T3) ∈ ts
      · have HH := Lib.hid (show ∀ W, Reads W (.slice (some ⟨g, 0, none⟩) ts.length c) ts → Calls Try.prog 12 #[.slice (some ⟨g, 0, none⟩) ts.length c, .agg #[.int .i64 (x % m), .int .i64 (y % m), .int .i64 (z % 6)]] W fun e w' => e = .returned (.bool true) ∧ Ext W w' from fun W h => by
          have := has_any _ ts (x % m) (y % m) (z % 6) W h
          rwa [decide_eq_true hmem] at this)
        clear hmem
        go_wp2_with fail
        refine (HH.out _ (HO.out.reads.ext XT.out)).mono ?_
        rintro e w5 ⟨rfl, hx5⟩
        have X5 := Lib.hid (XT.out.trans hx5); clear hx5
        go_wp2
        go_roundg (601 - (i + 2))
        case measure => omega
        case rel => exact ⟨i + 2, g, c, ts, rfl, by go_num, by omega, rfl, Ext.owns X5.out HO.out, ND.out, HL.out, by omega, hwr.trans X5.out⟩
      · have HH := Lib.hid (show ∀ W, Reads W (.slice (some ⟨g, 0, none⟩) ts.length c) ts → Calls Try.prog 12 #[.slice (some ⟨g, 0, none⟩) ts.length c, .agg #[.int .i64 (x % m), .int .i64 (y % m), .int .i64 (z % 6)]] W fun e w' => e = .returned (.bool false) ∧ Ext W w' from fun W h => by
          have := has_any _ ts (x % m) (y % m) (z % 6) W h
          rwa [decide_eq_false hmem] at this)
        have HM := Lib.hid hmem
        clear hmem
        go_wp2_with fail
        refine (HH.out _ (HO.out.reads.ext XT.out)).mono ?_
        rintro e w5 ⟨rfl, hx5⟩
        have C5 := cell_of_blk (Ext.blk hx5 (show (World.drew _).heap[wr.heap.size]? = _ from BT.out))
        have X5 := Lib.hid (XT.out.trans hx5); clear hx5
        have hb5 : w.heap.size ≤ w5.heap.size := Nat.le_trans hb0 X5.out.size
        go_wp2_with (at_builtin; refine append_one rfl (.tmp 48) (.tmp 50) 23 rfl w.heap.size 28 .i64 _ 24 Try.underlying23 infoT rfl (by decide) _ ts _ _ _ rfl (Ext.owns (X5.out.alloc _) HO.out) rfl ?c1 hb5 ?_)
        case c1 => omega
        intro v' w6 hown' hx6
        have hx6 := hx6 w ((hwr.trans X5.out).alloc _) (Nat.le_refl _)
        obtain ⟨g6, c6, rfl, _, _, _⟩ := hown'.form
        have HO6 := Lib.hid hown'; have X6 := Lib.hid hx6
        clear hown' hx6
        go_wp2
        go_roundg (601 - (i + 2))
        case measure => omega
        case rel =>
          refine ⟨i + 2, g6, c6, ts ++ [(x % m, y % m, z % 6)], rfl, by go_num, by omega, rfl, HO6.out, ?_, ?_, by simp; omega, X6.out⟩
          · rw [List.nodup_append]
            exact ⟨ND.out, by simp, fun a ha b hb => by rw [List.mem_singleton.1 hb]; rintro rfl; exact HM.out ha⟩
          · intro t ht
            rcases List.mem_append.1 ht with ht | ht
            · exact HL.out t ht
            · rw [List.mem_singleton.1 ht]
              exact ⟨rfl, hx3, by dsimp only; omega, hy3, by dsimp only; omega⟩
    · have fin : RowKit.Hid (TilesSays w n (.returned (.tuple #[.slice (some ⟨g, 0, none⟩) ts.length c, .int .i64 (z % 6)])) wr) :=
        Lib.hid ⟨g, c, ts, by rw [HN.out], HO.out.reads, ND.out, by rw [← HN.out]; exact HL.out, by omega, hwr⟩
      rcases Nat.lt_or_ge (i + 1) zs.length with h3 | h3
      · have h4 : 600 ≤ i := by omega
        have d1 : decide ((i : Int) + 1 < zs.length) = true := by simp; omega
        have d2 : decide (i + 1 < zs.length) = true := by simp; omega
        have d3 : decide ((i : Int) < 600) = false := by simp; omega
        have d4 : decide (i < 600) = false := by simp; omega
        go_wp2
        go_ret2
        exact fin.out
      · have d1 : decide ((i : Int) + 1 < zs.length) = false := by simp; omega
        have d2 : decide (i + 1 < zs.length) = false := by simp; omega
        go_wp2
        go_ret2
        exact fin.out

set_option maxHeartbeats 800000 in
theorem stiles_any (v : Value) (zs : List Int) (z : Int) (n : Nat) (w : World) (h : Bytes w v zs) (hz0 : 0 ≤ z) (hz1 : z ≤ 255) (hn : z % 6 = n) :
    Calls Try.prog 6 #[v, .int .u8 z] w (TilesSays w n) := by
  obtain ⟨a, cap, rfl, h1, h2, hc⟩ := h
  by_cases h0 : zs = []
  · subst h0
    clear hc h1 h2
    have fin : RowKit.Hid (TilesSays w n (.returned (.tuple #[.slice (some ⟨w.heap.size, 0, none⟩) 0 0, .int .i64 (z % 6)])) (w.alloc (.cells #[] 28))) :=
      Lib.hid ⟨w.heap.size, 0, [], by rw [hn]; rfl, (by simpa [cells3] using Owns.lit w 28 .i64 [] w.heap.size (Nat.le_refl _) (by simp [maxLen]) : Owns _ _ _ _ _ _).reads, by simp, by simp, by simp, (Ext.refl _).alloc _⟩
    clear hn
    simp only [List.length_nil]
    go_enter Try.func6, Try.ntmps6
    go_wp2
    go_loopg [7, 8] 0 (fun r out iv wr => out = .slice (some ⟨w.heap.size, 0, none⟩) 0 0 ∧ iv = .int .i64 0 ∧ wr = w.alloc (.cells #[] 28))
    case atStart => exact ⟨rfl, rfl, rfl⟩
    case round =>
      obtain ⟨rfl, rfl, rfl⟩ := hrel
      go_wp2
      go_ret2
      exact fin.out
  · obtain ⟨b, off, rfl, hc2⟩ := hc h0
    exact stiles_some b off cap zs z n w h1 h2 hz0 hz1 hn hc2

end Go.Proofs.Ytdkknlnlfaoapaa
