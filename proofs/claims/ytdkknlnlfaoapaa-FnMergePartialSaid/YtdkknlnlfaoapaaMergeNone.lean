/- Merging up nothing. No condition but the zoom's kind. -/
import Derived.Test.YtdkknlnlfaoapaaMergeArm
namespace Go.Proofs.Ytdkknlnlfaoapaa
open Go.ChangeShapes Go.WideShapes Go.ChangeAt Go.RowKit

theorem setAt_same {k : IntKind} {w w' : World} {b : Nat} {l : Ents} (h : SetAt k w b l) (e : w'.heap = w.heap) : SetAt k w' b l := by unfold SetAt at h ⊢; rw [e]; exact h

set_option maxRecDepth 8000 in
set_option maxHeartbeats 3200000 in
theorem mergeup_none (b low : Nat) (w : World) (hlow : low ≤ 5) (h0 : SetAt .u32 w b []) :
    Calls Try.prog 15 #[.map (some b), .int .u32 low] w fun e w' => ∃ b' l', e = .returned (.map (some b')) ∧ SetAt .u32 w' b' l' ∧ MapOf l' (fun _ => false) ∧ Below b w w' := by
  have hbw : b < w.heap.size := (Array.getElem?_eq_some_iff.1 h0).1
  have H0 := Lib.hid h0
  have HM := Lib.hid (show MapOf [] (fun _ => false) from ⟨by simp, fun t => by simp [getB, seek], by simp⟩)
  have hrange := run_range_set (M := 39) Try.underlying39 w b [] h0
  clear h0
  go_enter Try.func15, Try.ntmps15
  go_wp2
  go_loopg [5] 0 (fun r mx wr => mx = .int .u32 1 ∧ wr = w.alloc (.mapIter (some b) 0 #[] 0))
  case atStart => exact ⟨rfl, rfl⟩
  case round =>
    obtain ⟨rfl, rfl⟩ := hrel
    have hit := blk_new w (.mapIter (some b) 0 #[] 0)
    have hset : SetAt .u32 (w.alloc (.mapIter (some b) 0 #[] 0)) b [] := blk_old H0.out _
    have hB : Below b w (w.alloc (.mapIter (some b) 0 #[] 0)) := (Below.refl b w).alloc (Nat.le_of_lt hbw) _
    generalize w.alloc (.mapIter (some b) 0 #[] 0) = wa at hit hset hB ⊢
    have hmk := @run_makeMap Try.prog
    rcases Nat.lt_trichotomy low 1 with hl | hl | hl
    · obtain rfl : low = 0 := by omega
      go_wp2_with (first
        | (at_next; refine wpList_next_set rfl _ rfl w.heap.size b 0 0 #[] [] rfl hit hset (by omega) (fun _ => .inr rfl) (fun w1 h1 => ?_) (fun i x y z v w2 h2 hent => absurd h2.out.1 (by simp))
           have HS1 := Lib.hid (setAt_same hset h1.out.1)
           have HB1 := Lib.hid (h1.out.2.1 b w hB)
           have hrange2 := run_range_set (M := 39) Try.underlying39 ((w1.alloc (.map #[] 0)).alloc (.map #[] 0)) b [] (blk_old (blk_old HS1.out _) _)
           clear hit hset hrange hB)
        | fail)
      have S1 := Lib.hid (blk_new w1 (.map #[] 0))
      have hb1 : b < w1.heap.size := (Array.getElem?_eq_some_iff.1 HS1.out).1
      have B1 := Lib.hid ((((HB1.out.alloc (by omega) (.map #[] 0)).alloc (by simp; omega) (.map #[] 0)).alloc (by simp; omega) (.mapIter (some b) 0 #[] 0)))
      go_loopg [0, 9] 0 (fun r s zz wr => s = .map (some b) ∧ zz = .int .u32 1 ∧ wr = w1.alloc (.map #[] 0))
      case atStart => exact ⟨rfl, rfl, rfl⟩
      case round =>
        obtain ⟨rfl, rfl, rfl⟩ := hrel
        go_wp2
        go_loopg [] 0 (fun r wr => wr = ((w1.alloc (.map #[] 0)).alloc (.map #[] 0)).alloc (.mapIter (some b) 0 #[] 0))
        case atStart => rfl
        case round =>
          obtain rfl := hrel
          have hit2 : (((w1.alloc (.map #[] 0)).alloc (.map #[] 0)).alloc (.mapIter (some b) 0 #[] 0)).heap[w1.heap.size + 1 + 1]? = some (.mapIter (some b) 0 #[] 0) := by
            have := blk_new ((w1.alloc (.map #[] 0)).alloc (.map #[] 0)) (.mapIter (some b) 0 #[] 0)
            simpa using this
          have sb2 : SetAt .u32 (((w1.alloc (.map #[] 0)).alloc (.map #[] 0)).alloc (.mapIter (some b) 0 #[] 0)) b [] := blk_old (blk_old (blk_old HS1.out _) _) _
          have sm2 : SetAt .u32 (((w1.alloc (.map #[] 0)).alloc (.map #[] 0)).alloc (.mapIter (some b) 0 #[] 0)) w1.heap.size [] := blk_old (blk_old S1.out _) _
          have sq2 : SetAt .u32 (((w1.alloc (.map #[] 0)).alloc (.map #[] 0)).alloc (.mapIter (some b) 0 #[] 0)) (w1.heap.size + 1) [] := by
            have := blk_old (blk_new (w1.alloc (.map #[] 0)) (.map #[] 0)) (.mapIter (some b) 0 #[] 0)
            rw [show (w1.alloc (.map #[] 0)).heap.size = w1.heap.size + 1 by simp] at this
            exact this
          have hb2 := B1.out
          generalize ((w1.alloc (.map #[] 0)).alloc (.map #[] 0)).alloc (.mapIter (some b) 0 #[] 0) = wc at hit2 sb2 sm2 sq2 hb2 ⊢
          have sm2 := Lib.hid sm2
          have sq2 := Lib.hid sq2
          have hb2 := Lib.hid hb2
          go_wp2_with (first
            | (at_next; refine wpList_next_set rfl _ rfl (w1.heap.size + 1 + 1) b 0 0 #[] [] rfl hit2 sb2 (by omega) (fun _ => .inr rfl) (fun w3 h3 => ?_) (fun i x y z v w2 h2 hent => absurd h2.out.1 (by simp))
               have hlen := run_len_set (M := 39) Try.underlying39 3 w3 (w1.heap.size + 1) [] (setAt_same sq2.out h3.out.1)
               have hrange3 := run_range_set (M := 39) Try.underlying39 w3 (w1.heap.size + 1) [] (setAt_same sq2.out h3.out.1)
               clear hit2 sb2 hrange2)
            | fail)
          have hit3 := blk_new w3 (.mapIter (some (w1.heap.size + 1)) 0 #[] 0)
          have sm3 : SetAt .u32 (w3.alloc (.mapIter (some (w1.heap.size + 1)) 0 #[] 0)) w1.heap.size [] := blk_old (setAt_same sm2.out h3.out.1) _
          have sq3 : SetAt .u32 (w3.alloc (.mapIter (some (w1.heap.size + 1)) 0 #[] 0)) (w1.heap.size + 1) [] := blk_old (setAt_same sq2.out h3.out.1) _
          have hz3 := (Array.getElem?_eq_some_iff.1 (setAt_same sq2.out h3.out.1)).1
          have hb3 := (h3.out.2.1 b w hb2.out).alloc (by omega) (.mapIter (some (w1.heap.size + 1)) 0 #[] 0)
          go_loopg [] 0 (fun r wr => wr = w3.alloc (.mapIter (some (w1.heap.size + 1)) 0 #[] 0))
          case atStart => rfl
          case round =>
            obtain rfl := hrel
            generalize w3.alloc (.mapIter (some (w1.heap.size + 1)) 0 #[] 0) = wd at hit3 sm3 sq3 hb3 ⊢
            have sm3 := Lib.hid sm3
            have hb3 := Lib.hid hb3
            go_wp2_with (first
              | (at_next; refine wpList_next_set rfl _ rfl w3.heap.size (w1.heap.size + 1) 0 0 #[] [] rfl hit3 sq3 (by omega) (fun _ => .inr rfl) (fun w4 h4 => ?_) (fun i x y z v w2 h2 hent => absurd h2.out.1 (by simp)))
              | fail)
            go_ret
            exact ⟨w1.heap.size, [], rfl, setAt_same sm3.out h4.out.1, HM.out, h4.out.2.1 b w hb3.out⟩
    · subst hl
      go_wp2_with (first
        | (at_next; refine wpList_next_set rfl _ rfl w.heap.size b 0 0 #[] [] rfl hit hset (by omega) (fun _ => .inr rfl) (fun w1 h1 => ?_) (fun i x y z v w2 h2 hent => absurd h2.out.1 (by simp)))
        | fail)
      exact bodyPost_ret (v := .map (some b)) (by simp [results, Try.results15, go_sem]) rfl ⟨b, [], rfl, setAt_same hset h1.out.1, HM.out, h1.out.2.1 b w hB⟩
    · have hq2 : ((low : Int) == 1) = false := by simp; omega
      have hq3 : decide ((1 : Int) > low) = false := by simp; omega
      have hq4 : decide ((low : Int) < 1) = false := by simp; omega
      have hq5 : decide (low < 1) = false := by simp; omega
      go_wp2_with (first
        | (at_next; refine wpList_next_set rfl _ rfl w.heap.size b 0 0 #[] [] rfl hit hset (by omega) (fun _ => .inr rfl) (fun w1 h1 => ?_) (fun i x y z v w2 h2 hent => absurd h2.out.1 (by simp)))
        | fail)
      have S1 := blk_new w1 (.map #[] 0)
      have B1 := (h1.out.2.1 b w hB).alloc (by rw [h1.out.1]; have := hB.size; omega) (.map #[] 0)
      go_loopg [0, 9] 0 (fun r s zz wr => s = .map (some b) ∧ zz = .int .u32 1 ∧ wr = w1.alloc (.map #[] 0))
      case atStart => exact ⟨rfl, rfl, rfl⟩
      case round =>
        obtain ⟨rfl, rfl, rfl⟩ := hrel
        go_wp2
        go_ret
        exact ⟨w1.heap.size, [], rfl, S1, HM.out, B1⟩

set_option maxRecDepth 8000 in
set_option maxHeartbeats 3200000 in
theorem mergepart_none (b low c : Nat) (w : World) (hlow : low ≤ 5) (hc1 : 1 ≤ c) (_hc4 : c ≤ 4) (h0 : SetAt .u32 w b []) :
    Calls Try.prog 19 #[.map (some b), .int .u32 low, .int .i64 c] w fun e w' => ∃ b' l', e = .returned (.map (some b')) ∧ SetAt .u32 w' b' l' ∧ MapOf l' (fun _ => false) ∧ Below b w w' := by
  have hbw : b < w.heap.size := (Array.getElem?_eq_some_iff.1 h0).1
  have H0 := Lib.hid h0
  have HM := Lib.hid (show MapOf [] (fun _ => false) from ⟨by simp, fun t => by simp [getB, seek], by simp⟩)
  have hrange := run_range_set (M := 39) Try.underlying39 w b [] h0
  clear h0
  have hcp : decide ((0 : Int) < (c : Int)) = true := by simp; omega
  have hcq : decide (0 < c) = true := by simp; omega
  have hcr : 0 < c := hc1
  go_enter Try.func19, Try.ntmps19
  go_wp2
  go_loopg [7] 0 (fun r mx wr => mx = .int .u32 1 ∧ wr = w.alloc (.mapIter (some b) 0 #[] 0))
  case atStart => exact ⟨rfl, rfl⟩
  case round =>
    obtain ⟨rfl, rfl⟩ := hrel
    have hit := blk_new w (.mapIter (some b) 0 #[] 0)
    have hset : SetAt .u32 (w.alloc (.mapIter (some b) 0 #[] 0)) b [] := blk_old H0.out _
    have hB : Below b w (w.alloc (.mapIter (some b) 0 #[] 0)) := (Below.refl b w).alloc (Nat.le_of_lt hbw) _
    generalize w.alloc (.mapIter (some b) 0 #[] 0) = wa at hit hset hB ⊢
    have hmk := @run_makeMap Try.prog
    rcases Nat.lt_trichotomy low 1 with hl | hl | hl
    · obtain rfl : low = 0 := by omega
      go_wp2_with (first
        | (at_next; refine wpList_next_set rfl _ rfl w.heap.size b 0 0 #[] [] rfl hit hset (by omega) (fun _ => .inr rfl) (fun w1 h1 => ?_) (fun i x y z v w2 h2 hent => absurd h2.out.1 (by simp))
           have HS1 := Lib.hid (setAt_same hset h1.out.1)
           have HB1 := Lib.hid (h1.out.2.1 b w hB)
           have hrange2 := run_range_set (M := 39) Try.underlying39 ((w1.alloc (.map #[] 0)).alloc (.map #[] 0)) b [] (blk_old (blk_old HS1.out _) _)
           clear hit hset hrange hB)
        | fail)
      have S1 := Lib.hid (blk_new w1 (.map #[] 0))
      have hb1 : b < w1.heap.size := (Array.getElem?_eq_some_iff.1 HS1.out).1
      have B1 := Lib.hid ((((HB1.out.alloc (by omega) (.map #[] 0)).alloc (by simp; omega) (.map #[] 0)).alloc (by simp; omega) (.mapIter (some b) 0 #[] 0)))
      go_loopg [0, 11] 0 (fun r s zz wr => s = .map (some b) ∧ zz = .int .u32 1 ∧ wr = w1.alloc (.map #[] 0))
      case atStart => exact ⟨rfl, rfl, rfl⟩
      case round =>
        obtain ⟨rfl, rfl, rfl⟩ := hrel
        go_wp2
        go_loopg [] 0 (fun r wr => wr = ((w1.alloc (.map #[] 0)).alloc (.map #[] 0)).alloc (.mapIter (some b) 0 #[] 0))
        case atStart => rfl
        case round =>
          obtain rfl := hrel
          have hit2 : (((w1.alloc (.map #[] 0)).alloc (.map #[] 0)).alloc (.mapIter (some b) 0 #[] 0)).heap[w1.heap.size + 1 + 1]? = some (.mapIter (some b) 0 #[] 0) := by
            have := blk_new ((w1.alloc (.map #[] 0)).alloc (.map #[] 0)) (.mapIter (some b) 0 #[] 0)
            simpa using this
          have sb2 : SetAt .u32 (((w1.alloc (.map #[] 0)).alloc (.map #[] 0)).alloc (.mapIter (some b) 0 #[] 0)) b [] := blk_old (blk_old (blk_old HS1.out _) _) _
          have sm2 : SetAt .u32 (((w1.alloc (.map #[] 0)).alloc (.map #[] 0)).alloc (.mapIter (some b) 0 #[] 0)) w1.heap.size [] := blk_old (blk_old S1.out _) _
          have sq2 : SetAt .u32 (((w1.alloc (.map #[] 0)).alloc (.map #[] 0)).alloc (.mapIter (some b) 0 #[] 0)) (w1.heap.size + 1) [] := by
            have := blk_old (blk_new (w1.alloc (.map #[] 0)) (.map #[] 0)) (.mapIter (some b) 0 #[] 0)
            rw [show (w1.alloc (.map #[] 0)).heap.size = w1.heap.size + 1 by simp] at this
            exact this
          have hb2 := B1.out
          generalize ((w1.alloc (.map #[] 0)).alloc (.map #[] 0)).alloc (.mapIter (some b) 0 #[] 0) = wc at hit2 sb2 sm2 sq2 hb2 ⊢
          have sm2 := Lib.hid sm2
          have sq2 := Lib.hid sq2
          have hb2 := Lib.hid hb2
          go_wp2_with (first
            | (at_next; refine wpList_next_set rfl _ rfl (w1.heap.size + 1 + 1) b 0 0 #[] [] rfl hit2 sb2 (by omega) (fun _ => .inr rfl) (fun w3 h3 => ?_) (fun i x y z v w2 h2 hent => absurd h2.out.1 (by simp))
               have hlen := run_len_set (M := 39) Try.underlying39 3 w3 (w1.heap.size + 1) [] (setAt_same sq2.out h3.out.1)
               have hrange3 := run_range_set (M := 39) Try.underlying39 w3 (w1.heap.size + 1) [] (setAt_same sq2.out h3.out.1)
               clear hit2 sb2 hrange2)
            | fail)
          have hit3 := blk_new w3 (.mapIter (some (w1.heap.size + 1)) 0 #[] 0)
          have sm3 : SetAt .u32 (w3.alloc (.mapIter (some (w1.heap.size + 1)) 0 #[] 0)) w1.heap.size [] := blk_old (setAt_same sm2.out h3.out.1) _
          have sq3 : SetAt .u32 (w3.alloc (.mapIter (some (w1.heap.size + 1)) 0 #[] 0)) (w1.heap.size + 1) [] := blk_old (setAt_same sq2.out h3.out.1) _
          have hz3 := (Array.getElem?_eq_some_iff.1 (setAt_same sq2.out h3.out.1)).1
          have hb3 := (h3.out.2.1 b w hb2.out).alloc (by omega) (.mapIter (some (w1.heap.size + 1)) 0 #[] 0)
          go_loopg [] 0 (fun r wr => wr = w3.alloc (.mapIter (some (w1.heap.size + 1)) 0 #[] 0))
          case atStart => rfl
          case round =>
            obtain rfl := hrel
            generalize w3.alloc (.mapIter (some (w1.heap.size + 1)) 0 #[] 0) = wd at hit3 sm3 sq3 hb3 ⊢
            have sm3 := Lib.hid sm3
            have hb3 := Lib.hid hb3
            go_wp2_with (first
              | (at_next; refine wpList_next_set rfl _ rfl w3.heap.size (w1.heap.size + 1) 0 0 #[] [] rfl hit3 sq3 (by omega) (fun _ => .inr rfl) (fun w4 h4 => ?_) (fun i x y z v w2 h2 hent => absurd h2.out.1 (by simp)))
              | fail)
            go_ret
            exact ⟨w1.heap.size, [], rfl, setAt_same sm3.out h4.out.1, HM.out, h4.out.2.1 b w hb3.out⟩
    · subst hl
      go_wp2_with (first
        | (at_next; refine wpList_next_set rfl _ rfl w.heap.size b 0 0 #[] [] rfl hit hset (by omega) (fun _ => .inr rfl) (fun w1 h1 => ?_) (fun i x y z v w2 h2 hent => absurd h2.out.1 (by simp)))
        | fail)
      exact bodyPost_ret (v := .map (some b)) (by simp [results, Try.results19, go_sem]) rfl ⟨b, [], rfl, setAt_same hset h1.out.1, HM.out, h1.out.2.1 b w hB⟩
    · have hq2 : ((low : Int) == 1) = false := by simp; omega
      have hq3 : decide ((1 : Int) > low) = false := by simp; omega
      have hq4 : decide ((low : Int) < 1) = false := by simp; omega
      have hq5 : decide (low < 1) = false := by simp; omega
      go_wp2_with (first
        | (at_next; refine wpList_next_set rfl _ rfl w.heap.size b 0 0 #[] [] rfl hit hset (by omega) (fun _ => .inr rfl) (fun w1 h1 => ?_) (fun i x y z v w2 h2 hent => absurd h2.out.1 (by simp)))
        | fail)
      have S1 := blk_new w1 (.map #[] 0)
      have B1 := (h1.out.2.1 b w hB).alloc (by rw [h1.out.1]; have := hB.size; omega) (.map #[] 0)
      go_loopg [0, 11] 0 (fun r s zz wr => s = .map (some b) ∧ zz = .int .u32 1 ∧ wr = w1.alloc (.map #[] 0))
      case atStart => exact ⟨rfl, rfl, rfl⟩
      case round =>
        obtain ⟨rfl, rfl, rfl⟩ := hrel
        go_wp2
        go_ret
        exact ⟨w1.heap.size, [], rfl, S1, HM.out, B1⟩

end Go.Proofs.Ytdkknlnlfaoapaa
