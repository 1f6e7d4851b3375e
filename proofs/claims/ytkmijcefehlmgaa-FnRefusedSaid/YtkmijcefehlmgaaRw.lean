/- The rows of the listings: the call gives a new slice of 72 rows of four cells each; a row's first cell is its name, its second its fixed bits. What was there before the call is as it was.
   Conditions: none. -/
import Derived.Test.YtkmijcefehlmgaaExec
import Derived.Test.YtkmijcefehlmgaaNm
import Derived.KernelRfl
import Derived.WalkSpells
namespace Go.Proofs.Ytkmijcefehlmgaa
open Go Go.RowKit

/-- the place of a row's name among the names -/
def rowIxs : List Nat := [
  4, 7, 5, 6, 406, 409, 407, 408, 14, 17, 333, 334, 115, 116, 15, 16, 34, 37, 331, 332, 113, 114, 35, 36, 0, 3, 1, 2, 350, 353, 351, 352, 287, 288, 289, 290, 18, 19, 346, 347, 449, 450, 364, 365, 85,
  90, 91, 86, 87, 88, 92, 89, 386, 454, 122, 123, 197, 198, 168, 169, 148, 149, 155, 158, 159, 162, 156, 157, 160, 161, 176, 177]

/-- the fixed bits of a row -/
def rowFixs : List Nat := [
  2332033024, 184549376, 2868903936, 721420288, 3405774848, 1258291200, 3942645760, 1795162112, 2315255808, 167772160, 2852126720, 704643072, 3388997632, 1241513984, 3925868544, 1778384896,
  2317352960, 169869312, 2854223872, 706740224, 3391094784, 1243611136, 3927965696, 1780482048, 2583691264, 436207616, 3120562176, 973078528, 3657433088, 1509949440, 4194304000, 2046820352,
  2596282368, 448798720, 2596283392, 448799744, 2596284416, 448800768, 2596285440, 448801792, 2596276224, 448792576, 2596277248, 448793600, 448806912, 448807936, 448808960, 448811008, 448812032,
  448813056, 2596293632, 2596297728, 2604662784, 2613051392, 509618176, 505423872, 509622272, 505427968, 509609984, 505415680, 509614080, 505419776, 509626368, 505432064, 509630464, 505436160,
  509634560, 505440256, 509638656, 505444352, 509642752, 505448448]
def rowIx (q : Nat) : Nat := rowIxs.getD q 0
def rowFix (q : Nat) : Nat := rowFixs.getD q 0

noncomputable def rowCells : Array Value :=
  match callE Try.prog 0 5 4 #[] [] with
  | some (_, [.cells cs _ _]) => cs
  | _ => #[]

set_option maxRecDepth 100000 in
theorem rows_eval (n : Nat) : callE Try.prog n 5 4 #[] [] = some (.slice (some ⟨n, 0, none⟩) 72 72, [.cells rowCells 29 (0, 0)]) := by kernel_rfl

set_option maxRecDepth 100000 in
theorem rowCells_names : (List.range 72).map (fun q => rowCells[q * 4]?) = (List.range 72).map (fun q => some (.string (nm (rowIx q)))) := by kernel_rfl

set_option maxRecDepth 100000 in
theorem rowCells_fixs : (List.range 72).map (fun q => rowCells[q * 4 + 1]?) = (List.range 72).map (fun q => some (.int .u32 (rowFix q))) := by kernel_rfl

theorem rowIxs_lt : rowIxs.all (fun k => decide (k < 645)) = true := by kernel_rfl
theorem rowIxs_length : rowIxs.length = 72 := by kernel_rfl
theorem rowFixs_lt : rowFixs.all (fun k => decide (k < 4294967296)) = true := by kernel_rfl
theorem rowFixs_length : rowFixs.length = 72 := by kernel_rfl

theorem of_map_range {α : Type} {n : Nat} {f g : Nat → α} (h : (List.range n).map f = (List.range n).map g) (q : Nat) (hq : q < n) : f q = g q := by
  have h1 : ((List.range n).map f)[q]? = some (f q) := by simp [hq]
  have h2 : ((List.range n).map g)[q]? = some (g q) := by simp [hq]
  rw [h, h2] at h1
  exact (Option.some.inj h1).symm

theorem of_all_getD {l : List Nat} {p : Nat → Bool} (h : l.all p = true) (q : Nat) (hq : q < l.length) : p (l.getD q 0) = true := by
  rw [List.all_eq_true] at h
  apply h
  rw [List.getD_eq_getElem?_getD, List.getElem?_eq_getElem hq]
  exact List.getElem_mem hq

theorem row_name (q : Nat) (hq : q < 72) : rowCells[q * 4]? = some (.string (nm (rowIx q))) := of_map_range rowCells_names q hq
theorem row_fix (q : Nat) (hq : q < 72) : rowCells[q * 4 + 1]? = some (.int .u32 (rowFix q)) := of_map_range rowCells_fixs q hq
theorem rowIx_lt (q : Nat) (hq : q < 72) : rowIx q < 645 := by
  have := of_all_getD rowIxs_lt q (by rw [rowIxs_length]; exact hq)
  simpa [rowIx] using this
theorem rowFix_lt (q : Nat) (hq : q < 72) : rowFix q < 4294967296 := by
  have := of_all_getD rowFixs_lt q (by rw [rowFixs_length]; exact hq)
  simpa [rowFix] using this

theorem rows_any (w : World) :
    Calls Try.prog 4 #[] w fun e w' => e = .returned (.slice (some ⟨w.heap.size, 0, none⟩) 72 72) ∧ w.alloc (.cells rowCells 29 (0, 0)) = w' := by
  refine (callE_sound Try.prog w.heap.size 5 4 #[] [] _ _ (rows_eval _) w rfl).mono ?_
  rintro e w' ⟨rfl, rfl⟩
  exact ⟨rfl, rfl⟩

attribute [irreducible] rowCells rowIx rowFix

end Go.Proofs.Ytkmijcefehlmgaa
