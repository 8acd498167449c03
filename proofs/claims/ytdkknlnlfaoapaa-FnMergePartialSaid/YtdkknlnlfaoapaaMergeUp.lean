/- Merging up by groups of four: what the package returns. Conditions: one zoom, at most 31 columns and rows. -/
import Derived.Test.YtdkknlnlfaoapaaMergeArm
import Derived.Test.YtdkknlnlfaoapaaMergeRes
namespace Go.Proofs.Ytdkknlnlfaoapaa
open Go.ChangeShapes Go.WideShapes Go.ChangeAt Go.RowKit

set_option maxRecDepth 8000 in
set_option maxHeartbeats 3200000 in
theorem mergeup_some (b n low : Nat) (l0 : Ents) (w : World) (hn : n ≤ 5) (hlow : low ≤ n) (h0 : SetAt .u32 w b l0) (nd : (l0.map (·.1)).Nodup) (ht : ∀ e ∈ l0, e.2 = true) (hlev : ∀ t ∈ l0.map (·.1), lev n t) (hne : l0 ≠ []) :
    Calls Try.prog 15 #[.map (some b), .int .u32 low] w fun e w' => ∃ b' l', e = .returned (.map (some b')) ∧ SetAt .u32 w' b' l' ∧ MapOf l' (res 4 (getB l0) (n - low)) ∧ Below b w w' := by
  have hbw : b < w.heap.size := (Array.getElem?_eq_some_iff.1 h0).1
  have H0 := Lib.hid h0
  have hrange := run_range_set (M := 39) Try.underlying39 w b l0 h0
  have hlen : 0 < l0.length := List.length_pos_iff.2 hne
  clear h0
  have HLEV := Lib.hid hlev; clear hlev
  have HT := Lib.hid ht; clear ht
  go_enter Try.func15, Try.ntmps15
  go_wp2
  go_loopg [5] 0 (fun r mx wr => mx = .int .u32 1 ∧ wr = w.alloc (.mapIter (some b) l0.length #[] l0.length))
  case atStart => exact ⟨rfl, rfl⟩
  case round =>
    obtain ⟨rfl, rfl⟩ := hrel
    have hit := blk_new w (.mapIter (some b) l0.length #[] l0.length)
    have hset : SetAt .u32 (w.alloc (.mapIter (some b) l0.length #[] l0.length)) b l0 := blk_old H0.out _
    have hB : Below b w (w.alloc (.mapIter (some b) l0.length #[] l0.length)) := (Below.refl b w).alloc (Nat.le_of_lt hbw) _
    generalize w.alloc (.mapIter (some b) l0.length #[] l0.length) = wa at hit hset hB ⊢
    have hmk := @run_makeMap Try.prog
    by_cases hq : low = n
    · subst hq
      have hq2 : ((low : Int) == (low : Int)) = true := by simp
      go_wp2_with (first
        | (at_next; refine wpList_next_set rfl _ rfl w.heap.size b l0.length l0.length #[] l0 rfl hit hset (by omega) (fun _ => .inr rfl) (fun w1 h1 => absurd (h1.out.2.2 0 hlen hlen) (by simp)) (fun i x y z v w2 h2 hent => ?_)
           clear hit hset hrange
           obtain rfl : v = true := HT.out _ (List.mem_of_getElem? h2.out.1)
           have hl := Lib.hid (HLEV.out _ (List.mem_map.2 ⟨_, List.mem_of_getElem? h2.out.1, rfl⟩))
           obtain rfl : z = low := hl.out.1)
        | fail)
      obtain ⟨_, _, h2c, hset, hoth, hsz, hbel⟩ := h2.out
      have hsz2 : w.heap.size < w2.heap.size := (Array.getElem?_eq_some_iff.1 h2c).1
      exact bodyPost_ret (v := .map (some b)) (by simp [results, Try.results15, go_sem]) rfl ⟨b, rfl, l0, blk_old hset _, ⟨nd, fun t => by simp [res, lvG, lvF], fun t ht => ⟨low, by omega, by omega, HLEV.out t ht⟩⟩, (hbel b w (Nat.le_of_lt hbw) hB).alloc (by omega) _⟩
    have hq2 : ((low : Int) == (n : Int)) = false := by simp; omega
    go_wp2_with (first
      | (at_next; refine wpList_next_set rfl _ rfl w.heap.size b l0.length l0.length #[] l0 rfl hit hset (by omega) (fun _ => .inr rfl) (fun w1 h1 => absurd (h1.out.2.2 0 hlen hlen) (by simp)) (fun i x y z v w2 h2 hent => ?_)
         clear hit hset hrange
         obtain rfl : v = true := HT.out _ (List.mem_of_getElem? h2.out.1)
         have hl := Lib.hid (HLEV.out _ (List.mem_map.2 ⟨_, List.mem_of_getElem? h2.out.1, rfl⟩))
         obtain rfl : z = n := hl.out.1)
      | fail)
    obtain ⟨_, _, _, hset, hoth, hsz, hbel⟩ := h2.out
    have hB2 := hbel b w (Nat.le_of_lt hbw) hB
    have HB2 := Lib.hid hB2
    have HS2 := Lib.hid hset
    have hsz2 : w.heap.size < w2.heap.size := (Array.getElem?_eq_some_iff.1 h2.out.2.2.1).1
    have SM := blk_old (blk_old HS2.out (.cells #[.int .u32 x, .int .u32 y, .int .u32 n] 45)) (.map #[] 0)
    have MM := blk_new (w2.alloc (.cells #[.int .u32 x, .int .u32 y, .int .u32 n] 45)) (.map #[] 0)
    have BM := ((HB2.out.alloc (by omega) (.cells #[.int .u32 x, .int .u32 y, .int .u32 n] 45)).alloc (by simp; omega) (.map #[] 0))
    rw [show (w2.alloc (.cells #[.int .u32 x, .int .u32 y, .int .u32 n] 45)).heap.size = w2.heap.size + 1 by simp] at MM
    have hne2 : b ≠ w2.heap.size + 1 := by omega
    have hge : b ≤ w2.heap.size + 1 := by omega
    clear h2 hbel hoth hsz hset hB hB2 HS2 HB2 hsz2 hent hl
    generalize (w2.alloc (.cells #[.int .u32 x, .int .u32 y, .int .u32 n] 45)).alloc (.map #[] 0) = wm at SM MM BM ⊢
    generalize w2.heap.size + 1 = bm at *
    have O0 := Lib.hid (show Out w wm b b bm l0 [] 4 (getB l0) n 0 from ⟨SM, MM, hne2, Nat.le_refl _, hge, BM, nd, by simp, HT.out, rfl, by funext t; rfl, by simpa using HLEV.out, by simp⟩)
    clear SM MM BM hne2 hge HLEV HT nd
    go_loopg [0, 9] (n - low) (fun r s zz wr => ∃ (k bl : Nat) (l m : Ents), r + k = n - low ∧ k < n - low ∧ s = .map (some bl) ∧ zz = .int .u32 (n - k : Nat) ∧ Out w wr b bl bm l m 4 (getB l0) n k)
    case atStart => exact ⟨0, b, l0, [], by omega, by omega, rfl, rfl, O0.out⟩
    case round =>
      obtain ⟨gj, rfl⟩ : ∃ gj : Nat, gj = gk := ⟨_, rfl⟩
      obtain ⟨k, bl, l, m, hj, hk, rfl, rfl, HO⟩ := hrel
      have HO := Lib.hid HO
      obtain ⟨wo, rfl⟩ : ∃ wo : World, wo = wr := ⟨_, rfl⟩
      obtain ⟨e, he⟩ : ∃ e, e = n - k := ⟨_, rfl⟩
      have he1 : low < e := by omega
      have he5 : e ≤ 5 := by omega
      rw [← he]
      have HE := Lib.hid he; clear he
      have d1 : decide ((low : Int) < e) = true := by simp; omega
      have d2 : decide (low < e) = true := by simp; omega
      have hrange2 := run_range_set (M := 39) Try.underlying39 (wo.alloc (.map #[] 0)) bl l (blk_old HO.out.sl _)
      go_wp2
      have HI := Lib.hid HO.out.inn
      obtain ⟨top, htop⟩ : ∃ top, top = decide (e = low + 1) := ⟨_, rfl⟩
      obtain ⟨f0, hf0⟩ : ∃ f0, f0 = lvF 4 (getB l0) k := ⟨_, rfl⟩
      obtain ⟨g0, hg0⟩ : ∃ g0, g0 = lvG 4 (getB l0) k := ⟨_, rfl⟩
      have HS := Lib.hid (show LInv 4 top e f0 g0 (l.map (·.1)) l m [] #[] [] by
        have := LInv.start (c := 4) (top := top) (z := (e : Int)) HO.out.nl HO.out.nm (by rw [HE.out]; exact HO.out.gl) HO.out.gm
        rwa [HO.out.fl, HO.out.fm, ← hf0, ← hg0] at this)
      have HF := Lib.hid hf0; have HG := Lib.hid hg0; clear hf0 hg0
      have HTOP := Lib.hid htop; clear htop
      have hks : (l.map (·.1)).length = l.length := by simp
      have HKS := Lib.hid hks; clear hks
      obtain ⟨since, hsince⟩ : ∃ since, since = l.length := ⟨_, rfl⟩
      rw [← hsince] at HI
      have HSI := Lib.hid hsince; clear hsince
      clear hrange2 O0 H0 hlen
      go_loopg [] (mu f0 (l.map (·.1)) l #[] []) (fun R wi => ∃ (l' m' q' : Ents) (seen : Array Nat) (last : Nat) (D : List T3), R = mu f0 (l.map (·.1)) l' seen D ∧
        LInv 4 top e f0 g0 (l.map (·.1)) l' m' q' seen D ∧ Inn w wi b bl bm wo.heap.size (wo.heap.size + 1) l' m' q' since last seen)
      case atStart => exact ⟨l, m, [], #[], since, [], rfl, HS.out, by have := HI.out; rwa [HSI.out] at this ⊢⟩
      case round =>
        obtain ⟨l', m', q', seen, last, D, rfl, HL, HN⟩ := hrel
        have HL := Lib.hid HL
        have HN := Lib.hid HN
        obtain ⟨wi, rfl⟩ : ∃ wi : World, wi = wr := ⟨_, rfl⟩
        go_wp2_with (first
          | (at_next; refine wpList_next_set rfl _ rfl (wo.heap.size + 1) bl since last seen l' rfl HN.out.it HN.out.sl HN.out.nr.1 HN.out.la (fun w1 h1 => ?_) (fun i x y z v w3 h3 hent => ?_)
             rotate_left
             rcases v with _ | _
             rotate_left 2
             have hlen := run_len_set (M := 39) Try.underlying39 3 w1 wo.heap.size q' (by have := HN.out.sq; unfold SetAt at this ⊢; rw [h1.out.1]; exact this)
             have hrange3 := run_range_set (M := 39) Try.underlying39 w1 wo.heap.size q' (by have := HN.out.sq; unfold SetAt at this ⊢; rw [h1.out.1]; exact this)
             rcases Nat.lt_or_ge q'.length 4 with hq4 | hq4
             have hd4 : decide ((q'.length : Int) < 4) = true := by simp; omega
             rotate_left
             have hd4 : decide ((q'.length : Int) < 4) = false := by simp; omega)
          | fail)
        · have hks : ∀ t, f0 t = true → t ∈ l.map (·.1) := by
            rw [HF.out, ← HO.out.fl]; intro t h; exact List.mem_map.2 ⟨_, getB_mem h, rfl⟩
          obtain ⟨DN1, DN2⟩ := HL.out.done (by omega) (fun i h1' h2' => h1.out.2.2 i (by rw [HSI.out]; rwa [HKS.out] at h1') h2') hks
          rw [HF.out, HG.out] at DN1
          rw [HF.out] at DN2
          obtain ⟨hk1, hF1, hG1⟩ := round_next HE.out he1 HTOP.out HL.out.nq HL.out.qt (by omega) hq4 DN1 DN2
          go_roundg (gj - 1)
          case measure => omega
          case rel =>
            refine ⟨k + 1, wo.heap.size, q', m', by omega, hk1, rfl, ?_, ?_, ?_, Ne.symm HN.out.ne3, HN.out.hq, HN.out.hm, h1.out.2.1 b w HN.out.bel, HL.out.nq, HL.out.nm, HL.out.qt, hF1, hG1, ?_, HL.out.gm⟩
            · have := HE.out
              have e1 : ((e : Int) - 1) = ((n - (k + 1) : Nat) : Int) := by omega
              rw [e1]
            · have := HN.out.sq; unfold SetAt at this ⊢; rw [h1.out.1]; exact this
            · have := HN.out.sm; unfold SetAt at this ⊢; rw [h1.out.1]; exact this
            · have := HE.out
              have e1 : ((e : Int) - 1) = ((n - (k + 1) : Nat) : Int) := by omega
              rw [← e1]; exact HL.out.gq
        · go_roundg (mu f0 (l.map (·.1)) l' (seen.push i) D)
          case measure => exact mu_skip _ _ _ _ _ _ (List.getElem?_eq_some_iff.1 h3.out.1).1 h3.out.2.1
          case rel => exact ⟨l', m', q', seen.push i, l'.length, D, rfl, HL.out.skip h3.out.1, (HN.out.step h3.out).ext ((Ext.refl _).alloc _)⟩
        · have hlv := HL.out.gl (x, y, z) (List.mem_map.2 ⟨_, List.mem_of_getElem? h3.out.1, rfl⟩)
          obtain ⟨rfl, q1, q2, q3, q4⟩ : z = e ∧ 0 ≤ x ∧ x ≤ 31 ∧ 0 ≤ y ∧ y ≤ 31 := hlv
          refine (msibs_lit x y e _ (by omega) (by omega) q1 (by omega) q3 (by omega)).mono ?_
          rintro ee w4 ⟨g, rfl, hg, hx4⟩
          have IN4 := (HN.out.step h3.out).ext (((Ext.refl _).alloc (.cells #[.int .u32 x, .int .u32 y, .int .u32 e] 45)).trans hx4)
          have CT4 := Ext.blk hx4 (blk_new w3 (.cells #[.int .u32 x, .int .u32 y, .int .u32 e] 45))
          have ST := Lib.hid (IN4.st CT4 hg)
          have CS := cell_of_blk hg
          have CT := cell_of_blk CT4
          clear IN4 CT4 hg hx4 hent
          have hP : par (x, y, (e : Int)) = (x / 2, y / 2, (e : Int) - 1) := rfl
          have hkid : kidsT (x / 2, y / 2, (e : Int) - 1) = [(x / 2 * 2, y / 2 * 2, (e : Int)), (x / 2 * 2 + 1, y / 2 * 2, (e : Int)), (x / 2 * 2 + 1, y / 2 * 2 + 1, (e : Int)), (x / 2 * 2, y / 2 * 2 + 1, (e : Int))] := by
            simp [kidsT, kids]
          have hpar : ∀ s ∈ kidsT (x / 2, y / 2, (e : Int) - 1), par s = (x / 2, y / 2, (e : Int) - 1) := fun s hs => (mem_kidsT s _).1 hs
          rw [hkid] at hpar
          have k0 := run_lookup key_mtile (M := 39) Try.underlying39 zero_bool w4 bl l' ST.out.l (x / 2 * 2) (y / 2 * 2) e
          have k1 := run_lookup key_mtile (M := 39) Try.underlying39 zero_bool w4 bl l' ST.out.l (x / 2 * 2 + 1) (y / 2 * 2) e
          have k2 := run_lookup key_mtile (M := 39) Try.underlying39 zero_bool w4 bl l' ST.out.l (x / 2 * 2 + 1) (y / 2 * 2 + 1) e
          have k3 := run_lookup key_mtile (M := 39) Try.underlying39 zero_bool w4 bl l' ST.out.l (x / 2 * 2) (y / 2 * 2 + 1) e
          rw [HL.out.look h3.out.1 (x / 2 * 2, y / 2 * 2, (e : Int)) (hpar _ (by simp))] at k0
          rw [HL.out.look h3.out.1 (x / 2 * 2 + 1, y / 2 * 2, (e : Int)) (hpar _ (by simp))] at k1
          rw [HL.out.look h3.out.1 (x / 2 * 2 + 1, y / 2 * 2 + 1, (e : Int)) (hpar _ (by simp))] at k2
          rw [HL.out.look h3.out.1 (x / 2 * 2, y / 2 * 2 + 1, (e : Int)) (hpar _ (by simp))] at k3
          have hgr : grp f0 (x / 2, y / 2, (e : Int) - 1) = ((f0 (x / 2 * 2, y / 2 * 2, (e : Int))).toNat + (f0 (x / 2 * 2 + 1, y / 2 * 2, (e : Int))).toNat + (f0 (x / 2 * 2 + 1, y / 2 * 2 + 1, (e : Int))).toNat + (f0 (x / 2 * 2, y / 2 * 2 + 1, (e : Int))).toNat) := by
            unfold grp; rw [hkid]
            simp only [List.countP_cons, List.countP_nil]
            cases f0 (x / 2 * 2, y / 2 * 2, (e : Int)) <;> cases f0 (x / 2 * 2 + 1, y / 2 * 2, (e : Int)) <;> cases f0 (x / 2 * 2 + 1, y / 2 * 2 + 1, (e : Int)) <;> cases f0 (x / 2 * 2, y / 2 * 2 + 1, (e : Int)) <;> rfl
          have LF := HL.out.full h3.out.1 (by omega) (z := (e : Int))
          have LP := HL.out.part h3.out.1 (by omega) (z := (e : Int))
          have hks : ∀ t, f0 t = true → t ∈ l.map (·.1) := by
            rw [HF.out, ← HO.out.fl]; intro t h; exact List.mem_map.2 ⟨_, getB_mem h, rfl⟩
          have MD := fun bs => mu_done f0 (l.map (·.1)) l' seen D i (x, y, (e : Int)) bs (List.getElem?_eq_some_iff.1 h3.out.1).1 h3.out.2.1 HL.out.nl (hks _ (HL.out.hit h3.out.1).1) (HL.out.hit h3.out.1).1 (HL.out.hit h3.out.1).2
          rw [hP] at LF LP MD
          rw [hgr] at LF LP
          rw [hkid] at LF LP MD
          have LF := Lib.hid LF; have LP := Lib.hid LP; have MD := Lib.hid MD
          have HLA := Lib.hid (show 0 < l'.length from Nat.lt_of_le_of_lt (Nat.zero_le _) (List.getElem?_eq_some_iff.1 h3.out.1).1)
          clear hgr hkid hpar hP hks
          obtain ⟨v0, hv0⟩ : ∃ v, v = f0 (x / 2 * 2, y / 2 * 2, (e : Int)) := ⟨_, rfl⟩
          obtain ⟨v1, hv1⟩ : ∃ v, v = f0 (x / 2 * 2 + 1, y / 2 * 2, (e : Int)) := ⟨_, rfl⟩
          obtain ⟨v2, hv2⟩ : ∃ v, v = f0 (x / 2 * 2 + 1, y / 2 * 2 + 1, (e : Int)) := ⟨_, rfl⟩
          obtain ⟨v3, hv3⟩ : ∃ v, v = f0 (x / 2 * 2, y / 2 * 2 + 1, (e : Int)) := ⟨_, rfl⟩
          rw [← hv0] at k0; rw [← hv1] at k1; rw [← hv2] at k2; rw [← hv3] at k3
          have V0 := Lib.hid hv0.symm; have V1 := Lib.hid hv1.symm; have V2 := Lib.hid hv2.symm; have V3 := Lib.hid hv3.symm
          clear hv0 hv1 hv2 hv3
          rcases v0 with _ | _ <;> rcases v1 with _ | _ <;> rcases v2 with _ | _ <;> rcases v3 with _ | _
          rotate_left 15
          · have hN : 4 ≤ (f0 (x / 2 * 2, y / 2 * 2, (e : Int))).toNat + (f0 (x / 2 * 2 + 1, y / 2 * 2, (e : Int))).toNat + (f0 (x / 2 * 2 + 1, y / 2 * 2 + 1, (e : Int))).toNat + (f0 (x / 2 * 2, y / 2 * 2 + 1, (e : Int))).toNat := by
              rw [V0.out, V1.out, V2.out, V3.out]; decide
            have HLF := Lib.hid (LF.out hN)
            clear hN
            have HPAR := Lib.hid (fun W => mparent_any x y e W (by omega) (by omega))
            rcases Decidable.em (e = low + 1) with htop | htop
            · obtain rfl : top = true := by rw [HTOP.out]; simp [htop]
              have g1 : ((e : Int) - 1 == (low : Int)) = true := by simp; omega
              clear htop
              go_wp2_with (first
                | (at_mapUpdate; refine wpList_upl ST.out rfl _ _ _ rfl rfl _ _ _ rfl _ rfl (fun w5 ST CS CT => ?_))
                | (at_mapUpdate; refine wpList_upm ST.out rfl _ _ _ rfl rfl _ _ _ rfl _ rfl (fun w5 ST CS CT => ?_))
                | (at_mapUpdate; refine wpList_upq ST.out rfl _ _ _ rfl rfl _ _ _ rfl _ rfl (fun w5 ST CS CT => ?_))
                | (go_at_call 24; refine (HPAR.out _).mono ?_; rintro _ w6 ⟨rfl, hx6⟩
                   have CS := cell_of_blk (Ext.blk hx6 ST.out.s)
                   have CT := cell_of_blk (Ext.blk hx6 ST.out.t)
                   have ST := Lib.hid (ST.out.ext (hx6.alloc (.cells #[.int .u32 (x / 2), .int .u32 (y / 2), .int .u32 ((e : Int) - 1)] 45)))
                   clear hx6)
                | fail)
              go_roundg (mu f0 (l.map (·.1)) (clr (fun _ => true) [(x / 2 * 2, y / 2 * 2, (e : Int)), (x / 2 * 2 + 1, y / 2 * 2, (e : Int)), (x / 2 * 2 + 1, y / 2 * 2 + 1, (e : Int)), (x / 2 * 2, y / 2 * 2 + 1, (e : Int))] l') (seen.push i) ((x / 2, y / 2, (e : Int) - 1) :: D))
              case measure => exact MD.out _
              case rel => exact ⟨_, _, _, seen.push i, l'.length, _, rfl, HLF.out, by
                simp only [clr, List.foldl_cons, List.foldl_nil, if_true]
                exact ST.out.inn HN.out.hr HLA.out⟩
            · obtain rfl : top = false := by rw [HTOP.out]; simp [htop]
              have g1 : ((e : Int) - 1 == (low : Int)) = false := by simp; omega
              clear htop
              go_wp2_with (first
                | (at_mapUpdate; refine wpList_upl ST.out rfl _ _ _ rfl rfl _ _ _ rfl _ rfl (fun w5 ST CS CT => ?_))
                | (at_mapUpdate; refine wpList_upm ST.out rfl _ _ _ rfl rfl _ _ _ rfl _ rfl (fun w5 ST CS CT => ?_))
                | (at_mapUpdate; refine wpList_upq ST.out rfl _ _ _ rfl rfl _ _ _ rfl _ rfl (fun w5 ST CS CT => ?_))
                | (go_at_call 24; refine (HPAR.out _).mono ?_; rintro _ w6 ⟨rfl, hx6⟩
                   have CS := cell_of_blk (Ext.blk hx6 ST.out.s)
                   have CT := cell_of_blk (Ext.blk hx6 ST.out.t)
                   have ST := Lib.hid (ST.out.ext (hx6.alloc (.cells #[.int .u32 (x / 2), .int .u32 (y / 2), .int .u32 ((e : Int) - 1)] 45)))
                   clear hx6)
                | fail)
              go_roundg (mu f0 (l.map (·.1)) (clr (fun _ => true) [(x / 2 * 2, y / 2 * 2, (e : Int)), (x / 2 * 2 + 1, y / 2 * 2, (e : Int)), (x / 2 * 2 + 1, y / 2 * 2 + 1, (e : Int)), (x / 2 * 2, y / 2 * 2 + 1, (e : Int))] l') (seen.push i) ((x / 2, y / 2, (e : Int) - 1) :: D))
              case measure => exact MD.out _
              case rel => exact ⟨_, _, _, seen.push i, l'.length, _, rfl, HLF.out, by
                simp only [clr, List.foldl_cons, List.foldl_nil, if_true, Bool.false_eq_true, if_false]
                exact ST.out.inn HN.out.hr HLA.out⟩
          all_goals
            have hN : (f0 (x / 2 * 2, y / 2 * 2, (e : Int))).toNat + (f0 (x / 2 * 2 + 1, y / 2 * 2, (e : Int))).toNat + (f0 (x / 2 * 2 + 1, y / 2 * 2 + 1, (e : Int))).toNat + (f0 (x / 2 * 2, y / 2 * 2 + 1, (e : Int))).toNat < 4 := by
              rw [V0.out, V1.out, V2.out, V3.out]; decide
            have HLP := Lib.hid (LP.out hN)
            clear hN
            go_wp2_with (first
              | (at_mapUpdate; refine wpList_upl ST.out rfl _ _ _ rfl rfl _ _ _ rfl _ rfl (fun w5 ST CS CT => ?_))
              | (at_mapUpdate; refine wpList_upm ST.out rfl _ _ _ rfl rfl _ _ _ rfl _ rfl (fun w5 ST CS CT => ?_))
              | fail)
            go_roundg (mu f0 (l.map (·.1)) (clr f0 [(x / 2 * 2, y / 2 * 2, (e : Int)), (x / 2 * 2 + 1, y / 2 * 2, (e : Int)), (x / 2 * 2 + 1, y / 2 * 2 + 1, (e : Int)), (x / 2 * 2, y / 2 * 2 + 1, (e : Int))] l') (seen.push i) ((x / 2, y / 2, (e : Int) - 1) :: D))
            case measure => exact MD.out _
            case rel => exact ⟨_, _, _, seen.push i, l'.length, _, rfl, HLP.out, by
              simp only [clr, mrk, List.foldl_cons, List.foldl_nil, V0.out, V1.out, V2.out, V3.out, if_true, Bool.false_eq_true, if_false]
              exact ST.out.inn HN.out.hr HLA.out⟩
        · have hks : ∀ t, f0 t = true → t ∈ l.map (·.1) := by
            rw [HF.out, ← HO.out.fl]; intro t h; exact List.mem_map.2 ⟨_, getB_mem h, rfl⟩
          obtain ⟨DN1, DN2⟩ := HL.out.done (by omega) (fun i h1' h2' => h1.out.2.2 i (by rw [HSI.out]; rwa [HKS.out] at h1') h2') hks
          rw [HF.out, HG.out] at DN1
          rw [HF.out] at DN2
          have FIN := Lib.hid (round_last HE.out he1 HTOP.out (by omega) hq4 DN1 DN2)
          clear hks DN1 DN2
          have GQ := Lib.hid (show ∀ t ∈ q'.map (·.1), ∃ k : Int, 0 ≤ k ∧ k ≤ 31 ∧ lev k t from fun t ht => ⟨(e : Int) - 1, by omega, by omega, HL.out.gq t ht⟩)
          have F0 := Lib.hid (show Fin3 w (w1.alloc (.mapIter (some wo.heap.size) q'.length #[] q'.length)) b wo.heap.size bm w1.heap.size q' m' m' q'.length #[] by
            have sq1 : SetAt .u32 w1 wo.heap.size q' := by have := HN.out.sq; unfold SetAt at this ⊢; rw [h1.out.1]; exact this
            have sm1 : SetAt .u32 w1 bm m' := by have := HN.out.sm; unfold SetAt at this ⊢; rw [h1.out.1]; exact this
            have z1 := (Array.getElem?_eq_some_iff.1 sq1).1
            have z2 := (Array.getElem?_eq_some_iff.1 sm1).1
            have z3 := HN.out.hq
            exact ⟨blk_old sq1 _, blk_old sm1 _, blk_new w1 _, HN.out.ne3, ⟨by omega, by omega⟩, HN.out.hm, by omega, (h1.out.2.1 b w HN.out.bel).alloc (by omega) _, HL.out.nm, fun t => by simp, HL.out.gm, fun _ => .inr rfl⟩)
          clear hrange3 hlen
          go_loopg [] (unseen q' #[]) (fun R wr => ∃ (m2 : Ents) (seen : Array Nat) (last : Nat), R = unseen q' seen ∧ Fin3 w wr b wo.heap.size bm w1.heap.size q' m' m2 last seen)
          case atStart => exact ⟨m', #[], _, rfl, F0.out⟩
          case round =>
            obtain ⟨m2, seen2, last2, rfl, hF⟩ := hrel
            have HF3 := Lib.hid hF; clear hF
            go_wp2_with (first
              | (at_next; refine wpList_next_set rfl _ rfl w1.heap.size wo.heap.size q'.length last2 seen2 q' rfl HF3.out.it HF3.out.sq HF3.out.nr.1 HF3.out.la (fun w4 h4 => ?_) (fun i x y z v w5 h5 hent => ?_))
              | (at_mapUpdate; refine wpList_update rfl _ _ _ rfl bm m2 (blk_old ((h5.out.2.2.2.2.1 bm (Ne.symm HF3.out.nr.2)).trans HF3.out.sm) _) rfl _ _ _ rfl _ rfl ?_)
              | fail)
            · go_ret
              refine ⟨bm, m2, rfl, ?_, ⟨HF3.out.nm, fun t => ?_, HF3.out.gm⟩, h4.out.2.1 b w HF3.out.bel⟩
              · have := HF3.out.sm; unfold SetAt at this ⊢; rw [h4.out.1]; exact this
              · rw [HF3.out.done HL.out.nq HL.out.qt h4.out.2.2 t]; exact FIN.out t
            · go_roundg (unseen q' (seen2.push i))
              case measure => exact unseen_push _ _ _ (List.getElem?_eq_some_iff.1 h5.out.1).1 h5.out.2.1
              case rel => exact ⟨_, seen2.push i, q'.length, rfl, HF3.out.step GQ.out h5.out _⟩

end Go.Proofs.Ytdkknlnlfaoapaa
