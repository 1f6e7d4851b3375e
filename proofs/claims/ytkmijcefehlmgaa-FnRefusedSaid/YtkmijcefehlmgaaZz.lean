/- The name of an operation by its number: the call gives the name and lays the array of names in a new block.
   Conditions: none. -/
import Derived.Test.YtkmijcefehlmgaaExec
import Derived.Test.YtkmijcefehlmgaaNm
import Derived.KernelRfl
import Derived.WalkSpells
import Derived.WalkLawsBesides
namespace Go.Proofs.Ytkmijcefehlmgaa
open Go Go.RowKit

/-- the cells of the array of names -/
def nmRow : Array Value := ((List.range 645).map fun k => Value.string (nm k)).toArray

theorem nmRow_size : nmRow.size = 645 := by simp [nmRow]

theorem nmRow_get (k : Nat) (h : k < 645) : nmRow[k]? = some (.string (nm k)) := by
  simp [nmRow, h]

theorem nmRow_str : ∀ v ∈ nmRow.toList, ∃ s, v = .string s := by
  intro v hv
  simp only [nmRow, List.mem_map] at hv
  obtain ⟨k, _, rfl⟩ := hv
  exact ⟨_, rfl⟩

/-- the operations that lay the array -/
noncomputable def zzOps : List Oper :=
  match Try.f13.body with
  | some (.seq _ (.seq (.region _ ops _) _)) => ops.toList
  | _ => []

noncomputable def zzParts : Array (Nat × Operand) :=
  match zzOps with
  | o :: _ => match o.op with
    | .build _ p => p
    | _ => #[]
  | _ => #[]

theorem zzParts_eq : zzParts = ((List.range 645).map fun k => (k, Operand.const (.string (nm k)))).toArray := by kernel_rfl

/-- what 'fill' makes of parts of one cell each, in their order -/
theorem fill_row (f : Nat → Value) (hf : ∀ k, (f k).cells = #[f k]) (n : Nat) : ∀ (m i : Nat) (cs : Array Value), cs.size = n → i + m = n →
    Instr.fill (fun j => some (j * 1, 1)) cs ((List.range' i m).map fun k => (k, f k)) = some ((cs.toList.take i ++ (List.range' i m).map f).toArray) := by
  intro m
  induction m with
  | zero =>
    intro i cs hc hi
    have : cs.toList.take i = cs.toList := List.take_of_length_le (by simp; omega)
    simp [Instr.fill, this]
  | succ m ih =>
    intro i cs hc hi
    have hs : (f i).cells.size = 1 := by rw [hf]; rfl
    have hcell : ((f i).cells.zipIdx.foldl (fun cs (c, j) => cs.setIfInBounds (i * 1 + j) c) cs) = cs.setIfInBounds i (f i) := by
      rw [hf]
      simp
    rw [List.range'_succ, List.map_cons]
    simp only [Instr.fill]
    rw [if_neg (by simp [hs, hc]; omega), hcell, ih (i + 1) _ (by simpa using hc) (by omega)]
    congr 2
    have h1 : i < cs.size := by omega
    rw [Array.toList_setIfInBounds, List.take_add_one]
    rw [List.take_set_of_le (by omega)]
    simp [h1]

theorem zz_zero : ∃ v, (∀ w, (zeroValue 54).run Try.prog w = .ok v w) ∧ v.cells.size = 645 :=
  ⟨((Try.prog.info? 54).bind (·.zero)).getD undef, fun w => by kernel_rfl, by kernel_rfl⟩

theorem zz_under (w : World) : (underlying 54).run Try.prog w = .ok (.array 645 9) w := by kernel_rfl
theorem zz_size1 (w : World) : (sizeOf 9).run Try.prog w = .ok 1 w := by kernel_rfl
theorem zz_size (w : World) : (sizeOf 54).run Try.prog w = .ok 645 w := by kernel_rfl

theorem zz_build (ρ : Operand → Value) (hρ : ∀ v, ρ (.const v) = v) (w : World) :
    (Instr.build 54 (zzParts.map fun (i, x) => (i, ρ x))).run Try.prog w = .ok (.agg nmRow) w := by
  rw [zzParts_eq]
  obtain ⟨z, hz, hzs⟩ := zz_zero
  have hp : (((List.range 645).map fun k => (k, Operand.const (.string (nm k)))).toArray.map fun (i, x) => (i, ρ x)).toList = (List.range' 0 645).map fun k => (k, Value.string (nm k)) := by
    simp [hρ, List.range_eq_range', Function.comp_def]
  have hf := fill_row (fun k => Value.string (nm k)) (fun k => rfl) 645 645 0 z.cells hzs (by omega)
  have hr : (z.cells.toList.take 0 ++ (List.range' 0 645).map fun k => Value.string (nm k)).toArray = nmRow := by
    simp [nmRow, List.range_eq_range']
  unfold Instr.build
  simp only [Sem.run_bind, hz, Result.andThen, zz_under, zz_size1]
  rw [hp, hf, hr]
  rfl

/-- the store of a row of single cells into a new block -/
theorem run_storeRow (P : Program) (w : World) (t : TypeId) (vs : List Value) : ∀ (i : Nat) (cs : Array Value), (∀ v ∈ vs, ∃ s, v = .string s) → i + vs.length = cs.size →
    (storeCells ⟨w.heap.size, 0, none⟩ vs i).run P (w.alloc (.cells cs t)) = .ok () (w.alloc (.cells (cs.toList.take i ++ vs).toArray t)) := by
  induction vs with
  | nil =>
    intro i cs hs hi
    have : cs.toList.take i = cs.toList := List.take_of_length_le (by simp at hi ⊢; omega)
    simp [storeCells, this]
  | cons v vs ih =>
    intro i cs hs hi
    obtain ⟨s, rfl⟩ := hs v (by simp)
    simp only [List.length_cons] at hi
    have h1 : i < cs.size := by omega
    simp only [storeCells, Sem.run_bind]
    have h2 : (store ((⟨w.heap.size, 0, none⟩ : Addr).add i) (.string s)).run P (w.alloc (.cells cs t)) = .ok () (w.alloc (.cells (cs.setIfInBounds i (.string s)) t)) := by
      rw [Addr.add_lit, Nat.zero_add]
      show Sem.run P (.store .plain _ _ _) _ = _
      simp only [Sem.run]
      rw [World.cell?_alloc_new, World.frozen?_alloc_new]
      simp only [Array.getElem?_eq_getElem h1]
      rw [World.setCell_alloc_new]
      rfl
    rw [h2]
    simp only [Result.andThen]
    rw [ih (i + 1) _ (fun v hv => hs v (by simp [hv])) (by simp; omega)]
    congr 3
    rw [Array.toList_setIfInBounds, List.take_add_one, List.take_set_of_le (by omega)]
    simp [h1]

attribute [irreducible] nmRow zzParts

end Go.Proofs.Ytkmijcefehlmgaa
