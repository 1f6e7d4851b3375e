/- The words by names: the call gives a new slice of 69 rows of three cells each: a word's kind, its name, its bits; and each word's bits are what the function of its kind computes of its operation.
   Conditions: none. -/
import Derived.Test.YthemphilaahijaaExec
import Derived.Test.YthemphilaahijaaNm
import Derived.KernelRfl
import Derived.WalkSpells
namespace Go.Proofs.Ythemphilaahijaa
open Go Go.RowKit

/-- the place of a word's name among the names; 645: RET, which is none of them -/
def wordIxs : List Nat := [
  4, 7, 5, 6, 406, 409, 407, 408, 14, 17, 333, 334, 115, 116, 15, 16, 300, 301, 302, 303, 312, 313, 75, 76, 77, 78, 337, 338, 342, 343, 341, 345, 344, 410, 201, 383, 45, 200, 106, 107, 108, 23, 43,
  33, 39, 42, 44, 47, 46, 32, 40, 30, 41, 31, 38, 64, 62, 65, 63, 435, 434, 645, 117, 110, 637, 634, 635, 366, 367]

/-- the kind of a word -/
def wordKinds : List Nat := [
  0, 0, 0, 0, 0, 0, 0, 0, 0, 0, 0, 0, 0, 0, 0, 0, 0, 0, 0, 0, 0, 0, 1, 1, 1, 1, 1, 1, 1, 1, 1, 1, 1, 2, 2, 2, 2, 2, 2, 2, 2, 3, 3, 3, 3, 3, 3, 3, 3, 3, 3, 3, 3, 3, 3, 0, 0, 0, 0, 0, 0, 4, 5, 5, 5, 5,
  5, 5, 5]

/-- a word's bits -/
def wordFixs : List Nat := [
  2432696320, 285212672, 2969567232, 822083584, 3506438144, 1358954496, 4043309056, 1895825408, 2449473536, 301989888, 2986344448, 838860800, 3523215360, 1375731712, 4060086272, 1912602624,
  4068474880, 1920991232, 2457862144, 310378496, 3531603968, 1384120320, 3670021120, 1522537472, 3670020096, 1522536448, 3670016000, 1522532352, 3670017024, 1522533376, 3670019072, 1522534400,
  3670018048, 3556769793, 3556769794, 3556769795, 3558866944, 3560964096, 3567255553, 3567255554, 3567255555, 1409286144, 1409286145, 1409286146, 1409286147, 1409286148, 1409286149, 1409286150,
  1409286151, 1409286152, 1409286153, 1409286154, 1409286155, 1409286156, 1409286157, 3019898880, 3036676096, 872415232, 889192448, 905969664, 922746880, 3596550144, 3600745440, 3602842592,
  3573751871, 3573751903, 3573751935, 3573751967, 3573751999]

def wordIx (q : Nat) : Nat := wordIxs.getD q 0
def wordKind (q : Nat) : Nat := wordKinds.getD q 0
def wordFix (q : Nat) : Nat := wordFixs.getD q 0

def retNm : ByteArray := ⟨#[82, 69, 84]⟩
/-- a word's name -/
def wordNm (q : Nat) : ByteArray := if wordIx q = 645 then retNm else nm (wordIx q)
/-- a word's operation -/
def wordAs (q : Nat) : Int := if wordIx q = 645 then 11 else 10255 + (wordIx q : Int)

/-- the function of a kind -/
def kindFn : Nat → Nat
  | 0 => 17
  | 1 => 18
  | 2 => 19
  | 3 => 20
  | 4 => 21
  | _ => 22

noncomputable def wordCells : Array Value :=
  match callE Try.prog 0 5 4 #[] [] with
  | some (_, [.cells cs _ _]) => cs
  | _ => #[]

set_option maxRecDepth 100000 in
theorem words_eval (n : Nat) : callE Try.prog n 5 4 #[] [] = some (.slice (some ⟨n, 0, none⟩) 69 69, [.cells wordCells 26 (0, 0)]) := by kernel_rfl

set_option maxRecDepth 100000 in
theorem wordCells_kinds : (List.range 69).map (fun q => wordCells[q * 3]?) = (List.range 69).map (fun q => some (.int .i64 (wordKind q))) := by kernel_rfl

set_option maxRecDepth 100000 in
theorem wordCells_names : (List.range 69).map (fun q => wordCells[q * 3 + 1]?) = (List.range 69).map (fun q => some (.string (wordNm q))) := by kernel_rfl

set_option maxRecDepth 100000 in
theorem wordCells_fixs : (List.range 69).map (fun q => wordCells[q * 3 + 2]?) = (List.range 69).map (fun q => some (.int .u32 (wordFix q))) := by kernel_rfl

set_option maxRecDepth 100000 in
theorem words_ops (n : Nat) (c p : Value) : (List.range 69).map (fun q => callE Try.prog n 20 (kindFn (wordKind q)) #[c, p, .int .i16 (wordAs q)] []) = (List.range 69).map (fun q => some (.int .u32 (wordFix q), [])) := by kernel_rfl

theorem wordIxs_le : wordIxs.all (fun k => decide (k < 646)) = true := by kernel_rfl
theorem wordIxs_length : wordIxs.length = 69 := by kernel_rfl
theorem wordKinds_le : wordKinds.all (fun k => decide (k < 6)) = true := by kernel_rfl
theorem wordKinds_length : wordKinds.length = 69 := by kernel_rfl

theorem of_map_range' {α : Type} {n : Nat} {f g : Nat → α} (h : (List.range n).map f = (List.range n).map g) (q : Nat) (hq : q < n) : f q = g q := by
  have h1 : ((List.range n).map f)[q]? = some (f q) := by simp [hq]
  have h2 : ((List.range n).map g)[q]? = some (g q) := by simp [hq]
  rw [h, h2] at h1
  exact (Option.some.inj h1).symm

theorem of_all_getD' {l : List Nat} {p : Nat → Bool} (h : l.all p = true) (q : Nat) (hq : q < l.length) : p (l.getD q 0) = true := by
  rw [List.all_eq_true] at h
  apply h
  rw [List.getD_eq_getElem?_getD, List.getElem?_eq_getElem hq]
  exact List.getElem_mem hq

theorem word_kind (q : Nat) (hq : q < 69) : wordCells[q * 3]? = some (.int .i64 (wordKind q)) := of_map_range' wordCells_kinds q hq
theorem word_name (q : Nat) (hq : q < 69) : wordCells[q * 3 + 1]? = some (.string (wordNm q)) := of_map_range' wordCells_names q hq
theorem word_fix (q : Nat) (hq : q < 69) : wordCells[q * 3 + 2]? = some (.int .u32 (wordFix q)) := of_map_range' wordCells_fixs q hq
theorem word_op (q : Nat) (hq : q < 69) (n : Nat) (c p : Value) : callE Try.prog n 20 (kindFn (wordKind q)) #[c, p, .int .i16 (wordAs q)] [] = some (.int .u32 (wordFix q), []) := of_map_range' (words_ops n c p) q hq
theorem wordIx_le (q : Nat) (hq : q < 69) : wordIx q < 646 := by
  have := of_all_getD' wordIxs_le q (by rw [wordIxs_length]; exact hq)
  simpa [wordIx] using this
theorem wordKind_le (q : Nat) (hq : q < 69) : wordKind q < 6 := by
  have := of_all_getD' wordKinds_le q (by rw [wordKinds_length]; exact hq)
  simpa [wordKind] using this

theorem words_any (w : World) :
    Calls Try.prog 4 #[] w fun e w' => e = .returned (.slice (some ⟨w.heap.size, 0, none⟩) 69 69) ∧ w.alloc (.cells wordCells 26 (0, 0)) = w' := by
  refine (callE_sound Try.prog w.heap.size 5 4 #[] [] _ _ (words_eval _) w rfl).mono ?_
  rintro e w' ⟨rfl, rfl⟩
  exact ⟨rfl, rfl⟩

attribute [irreducible] wordCells wordIx wordKind wordFix

end Go.Proofs.Ythemphilaahijaa
