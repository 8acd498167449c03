/- sort.Slice at tiles: the row holds the same tiles in some order. No condition but the bounds. -/
import Derived.Test.YtdkknlnlfaoapaaSortN
import Derived.Shelf.GgSortFunc.Tiny
namespace Go.Proofs.Ytdkknlnlfaoapaa
open Go.ChangeShapes Go.WideShapes Go.ChangeAt Go.RowKit

noncomputable def slT : TypeInfo := (Try.prog.info? 23).get (by kernel_rfl)
theorem slT_info : Try.prog.info? 23 = some slT := by kernel_rfl
theorem elT_ptr : elT.hasPointers = false := by kernel_rfl
theorem elT_bytes : elT.bytes = 24 := by kernel_rfl
theorem swK (n : Nat) (h2 : 2 ≤ n) : Lib.swapperK n elT 25 = 9 := by
  have c : (n == 0) = false := by simp; omega
  have d : (n == 1) = false := by simp; omega
  simp [Lib.swapperK, elT_ptr, elT_bytes, c, d]
theorem bitLenAux_le : ∀ (f x : Nat), Lib.bitLenAux f x ≤ f
  | 0, _ => Nat.le_refl _
  | f + 1, x => by
    unfold Lib.bitLenAux
    split
    · omega
    · have := bitLenAux_le f (x / 2); omega
theorem bitLen_le (n : Nat) : Lib.bitLen n ≤ 64 := bitLenAux_le 64 n
section
variable {g bx n cap : Nat} {ts : List T3} {tail : List Value}
theorem sort_any (W : World) (h : Sl g bx n cap ts tail W) (hn : n ≤ 1048576) :
    Calls Try.prog 21 #[.iface 23 (.slice (some ⟨g, 0, none⟩) n cap), (.func (.func 22) #[] #[.pointer (some ⟨bx, 0, none⟩)])] W fun e w' => e = .returned (.tuple #[]) ∧ Srt g bx n cap ts tail W w' := by
  by_cases h2 : 2 ≤ n
  · refine Any.sort_Slice_of_pdq (P := Try.prog) (ρ := Try.gg6_ren) Try.gg6 23 28 slT elT slT_info (by kernel_rfl) (by kernel_rfl) elT_info 25 (fun _ => by kernel_rfl) (some ⟨g, 0, none⟩) n cap (by omega) 40 (by rw [swK n h2]; kernel_rfl) (.func 22) #[] #[.pointer (some ⟨bx, 0, none⟩)] W (Srt g bx n cap ts tail W) ?_
    have hB : sliceBound Try.prog 28 elT 25 (some ⟨g, 0, none⟩) n cap = #[.slice (some ⟨g, 0, none⟩) n cap, typeHandle Try.prog 28] := by
      unfold sliceBound; rw [swK n h2]; rfl
    rw [hB]
    have X : Ext W (sliceWorld Try.prog Try.gg6_ren 23 (some ⟨g, 0, none⟩) n cap W) := ((Ext.refl W).alloc _).alloc _
    exact (pdq_any hn (n + 1) 0 n (Lib.bitLen n) _ (by omega) (h.ext X) (by omega) (Nat.le_refl _) (bitLen_le n)).mono fun e w' ⟨he, hs⟩ => ⟨he, hs.sl, ((Keep.refl g W).ext X).trans hs.keep⟩
  · have tiny : ∀ f, Try.prog.funcs.findIdx? (·.name == "internal/reflectlite" ++ ".Swapper$" ++ toString (Lib.swapperK n elT 25)) = some f →
        Calls Try.prog 21 #[.iface 23 (.slice (some ⟨g, 0, none⟩) n cap), (.func (.func 22) #[] #[.pointer (some ⟨bx, 0, none⟩)])] W fun e w' => e = .returned (.tuple #[]) ∧ Srt g bx n cap ts tail W w' := fun f hf => by
      refine (Any.sort_Slice_tiny (P := Try.prog) (ρ := Try.gg6_ren) Try.gg6 23 28 slT elT slT_info (by kernel_rfl) (by kernel_rfl) elT_info 25 (fun _ => by kernel_rfl) (some ⟨g, 0, none⟩) n cap (by omega) f hf (.func 22) #[] #[.pointer (some ⟨bx, 0, none⟩)] W).mono ?_
      rintro e w' ⟨rfl, os, rfl⟩
      have X : Ext W (Sort.grow W os) := ⟨rfl, rfl, rfl, by simp [Sort.grow], fun k hk => by simp [Sort.grow, Array.getElem?_append_left hk]⟩
      exact ⟨rfl, h.ext X, (Keep.refl g W).ext X⟩
    rcases (by omega : n = 0 ∨ n = 1) with rfl | rfl
    · exact tiny 32 (by kernel_rfl)
    · exact tiny 33 (by kernel_rfl)
end

end Go.Proofs.Ytdkknlnlfaoapaa
