/- The words of operations with a number, on one register, with a number alone, of branches and without arguments are those of the listings: the law FnWords answers true.
   Conditions: none. -/
import Derived.Test.YthemphilaahijaaWk
import Derived.ProofKit
import Derived.OpenShut
namespace Go.Proofs.Ythemphilaahijaa
open Go.ChangeShapes Go.WideShapes Go.ChangeAt Go.RowKit

theorem named_ret (w : World) : Calls Try.prog 12 #[.string retNm] w fun e w' => e = .returned (.tuple #[.int .i16 11, .bool true]) ∧ Below w.heap.size w w' := by
  refine named_out retNm 11 true (fun w => ?_) ?_ w
  · refine (calls_plain (k := 5) (v := .tuple #[.int .i16 11, .bool true]) w (by kernel_rfl)).mono ?_
    rintro e w' ⟨rfl, rfl⟩
    exact ⟨rfl, rfl⟩
  · intro j hj
    cases e : ((nm j).toList == retNm.toList) with
    | false => rfl
    | true =>
      exfalso
      have e1 : nm j = retNm := bytes_one (by simpa using e)
      have e2 := enc_nm j hj
      rw [e1] at e2
      have e3 : codes.all (fun c => !(c == enc retNm.data.toList)) = true := by kernel_rfl
      rw [List.all_eq_true] at e3
      have h3 : j < codes.length := by rw [codes_length]; exact hj
      have h4 : codes.getD j 0 ∈ codes := by
        rw [List.getD_eq_getElem?_getD, List.getElem?_eq_getElem h3]
        exact List.getElem_mem h3
      have e4 := e3 _ h4
      rw [e2] at e4
      simp at e4

/-- the operation of a word's name -/
theorem named_word (q : Nat) (hq : q < 69) (w : World) : Calls Try.prog 12 #[.string (wordNm q)] w fun e w' => e = .returned (.tuple #[.int .i16 (wordAs q), .bool true]) ∧ Below w.heap.size w w' := by
  unfold wordNm wordAs
  by_cases h : wordIx q = 645
  · rw [if_pos h, if_pos h]
    exact named_ret w
  · rw [if_neg h, if_neg h]
    have h1 := wordIx_le q hq
    exact named_in (nm (wordIx q)) (wordIx q) (by omega) rfl (fun j hj => by
      cases e : ((nm j).toList == (nm (wordIx q)).toList) with
      | false => rfl
      | true =>
        exfalso
        have := nm_inj j (wordIx q) (by omega) (by omega) (bytes_one (by simpa using e))
        omega) w

theorem cell_after {w w' : World} (hb : Below w.heap.size w w') {b o : Nat} {v : Value} (hlt : b < w.heap.size) (h : w.cell? ⟨b, o, none⟩ = some v) : w'.cell? ⟨b, o, none⟩ = some v :=
  (hb.cell (p := ⟨b, o, none⟩) hlt).trans h

set_option maxHeartbeats 1000000 in
theorem fnWords_out (which : Int) (hk : which < 0 ∨ 69 ≤ which) (w : World) :
    Calls Try.prog 3 #[.int .i64 which] w fun e w' => e = .returned (.bool true) ∧ Below w.heap.size w w' := by
  go_enter Try.func3, Try.ntmps3
  go_wp2_with fail
  refine (words_any _).mono ?_
  rintro e w2 ⟨rfl, rfl⟩
  by_cases h1 : which < 0
  · go_wp2
    go_ret
    exact ⟨rfl, (Below.refl _ _).alloc (Nat.le_refl _) _⟩
  · have h2 : 69 ≤ which := by omega
    go_wp2
    go_ret
    exact ⟨rfl, (Below.refl _ _).alloc (Nat.le_refl _) _⟩

set_option maxHeartbeats 1000000 in
theorem fnWords_0 (q : Nat) (hq : q < 69) (hK : wordKind q = 0) (w : World) :
    Calls Try.prog 3 #[.int .i64 q] w fun e w' => e = .returned (.bool true) ∧ Below w.heap.size w w' := by
  have hd : ∀ w, Hid (Calls Try.prog 5 #[.string (wordNm q)] w fun e w' => e = .returned (.tuple #[.int .u32 (wordFix q), .bool true]) ∧ Below w.heap.size w w') := fun w =>
    door_0 (wordNm q) (wordFix q) (fun w => word_of (wordNm q) 0 (wordAs q) (wordFix q) (fun w => named_word q hq w) (fun w => zzword_0 (wordAs q) (wordFix q) (fun n c p => by have h := word_op q hq n c p; rw [hK] at h; exact h) w) w) w
  have c0 := word_kind q hq
  rw [hK] at c0
  have c1 := word_name q hq
  have c2 := word_fix q hq
  have h0 : (0 : Int) ≤ (q : Int) := by omega
  have h1 : (q : Int) < 69 := by omega
  clear hK
  go_enter Try.func3, Try.ntmps3
  go_wp2_with fail
  refine (words_any _).mono ?_
  rintro e w2 ⟨rfl, rfl⟩
  go_wp2_with fail
  refine (hd _).out.mono ?_
  rintro e w3 ⟨rfl, hb3⟩
  have hcell : w3.cell? ⟨w.heap.size + 1, 2, none⟩ = some (.int .u32 (wordFix q)) := cell_after hb3 (by simp) (by simp)
  have hB : Below w.heap.size w w3 := (((Below.refl w.heap.size w).alloc (Nat.le_refl _) _).alloc (by simp) _).trans (hb3.mono (by simp; omega))
  clear hb3 c0 c1 c2
  go_wp2
  go_ret
  exact ⟨rfl, hB⟩

set_option maxHeartbeats 1000000 in
theorem fnWords_1 (q : Nat) (hq : q < 69) (hK : wordKind q = 1) (w : World) :
    Calls Try.prog 3 #[.int .i64 q] w fun e w' => e = .returned (.bool true) ∧ Below w.heap.size w w' := by
  have hd : ∀ w, Hid (Calls Try.prog 6 #[.string (wordNm q)] w fun e w' => e = .returned (.tuple #[.int .u32 (wordFix q), .bool true]) ∧ Below w.heap.size w w') := fun w =>
    door_1 (wordNm q) (wordFix q) (fun w => word_of (wordNm q) 1 (wordAs q) (wordFix q) (fun w => named_word q hq w) (fun w => zzword_1 (wordAs q) (wordFix q) (fun n c p => by have h := word_op q hq n c p; rw [hK] at h; exact h) w) w) w
  have c0 := word_kind q hq
  rw [hK] at c0
  have c1 := word_name q hq
  have c2 := word_fix q hq
  have h0 : (0 : Int) ≤ (q : Int) := by omega
  have h1 : (q : Int) < 69 := by omega
  clear hK
  go_enter Try.func3, Try.ntmps3
  go_wp2_with fail
  refine (words_any _).mono ?_
  rintro e w2 ⟨rfl, rfl⟩
  go_wp2_with fail
  refine (hd _).out.mono ?_
  rintro e w3 ⟨rfl, hb3⟩
  have hcell : w3.cell? ⟨w.heap.size + 1, 2, none⟩ = some (.int .u32 (wordFix q)) := cell_after hb3 (by simp) (by simp)
  have hB : Below w.heap.size w w3 := (((Below.refl w.heap.size w).alloc (Nat.le_refl _) _).alloc (by simp) _).trans (hb3.mono (by simp; omega))
  clear hb3 c0 c1 c2
  go_wp2
  go_ret
  exact ⟨rfl, hB⟩

set_option maxHeartbeats 1000000 in
theorem fnWords_2 (q : Nat) (hq : q < 69) (hK : wordKind q = 2) (w : World) :
    Calls Try.prog 3 #[.int .i64 q] w fun e w' => e = .returned (.bool true) ∧ Below w.heap.size w w' := by
  have hd : ∀ w, Hid (Calls Try.prog 7 #[.string (wordNm q)] w fun e w' => e = .returned (.tuple #[.int .u32 (wordFix q), .bool true]) ∧ Below w.heap.size w w') := fun w =>
    door_2 (wordNm q) (wordFix q) (fun w => word_of (wordNm q) 2 (wordAs q) (wordFix q) (fun w => named_word q hq w) (fun w => zzword_2 (wordAs q) (wordFix q) (fun n c p => by have h := word_op q hq n c p; rw [hK] at h; exact h) w) w) w
  have c0 := word_kind q hq
  rw [hK] at c0
  have c1 := word_name q hq
  have c2 := word_fix q hq
  have h0 : (0 : Int) ≤ (q : Int) := by omega
  have h1 : (q : Int) < 69 := by omega
  clear hK
  go_enter Try.func3, Try.ntmps3
  go_wp2_with fail
  refine (words_any _).mono ?_
  rintro e w2 ⟨rfl, rfl⟩
  go_wp2_with fail
  refine (hd _).out.mono ?_
  rintro e w3 ⟨rfl, hb3⟩
  have hcell : w3.cell? ⟨w.heap.size + 1, 2, none⟩ = some (.int .u32 (wordFix q)) := cell_after hb3 (by simp) (by simp)
  have hB : Below w.heap.size w w3 := (((Below.refl w.heap.size w).alloc (Nat.le_refl _) _).alloc (by simp) _).trans (hb3.mono (by simp; omega))
  clear hb3 c0 c1 c2
  go_wp2
  go_ret
  exact ⟨rfl, hB⟩

set_option maxHeartbeats 1000000 in
theorem fnWords_3 (q : Nat) (hq : q < 69) (hK : wordKind q = 3) (w : World) :
    Calls Try.prog 3 #[.int .i64 q] w fun e w' => e = .returned (.bool true) ∧ Below w.heap.size w w' := by
  have hd : ∀ w, Hid (Calls Try.prog 8 #[.string (wordNm q)] w fun e w' => e = .returned (.tuple #[.int .u32 (wordFix q), .bool true]) ∧ Below w.heap.size w w') := fun w =>
    door_3 (wordNm q) (wordFix q) (fun w => word_of (wordNm q) 3 (wordAs q) (wordFix q) (fun w => named_word q hq w) (fun w => zzword_3 (wordAs q) (wordFix q) (fun n c p => by have h := word_op q hq n c p; rw [hK] at h; exact h) w) w) w
  have c0 := word_kind q hq
  rw [hK] at c0
  have c1 := word_name q hq
  have c2 := word_fix q hq
  have h0 : (0 : Int) ≤ (q : Int) := by omega
  have h1 : (q : Int) < 69 := by omega
  clear hK
  go_enter Try.func3, Try.ntmps3
  go_wp2_with fail
  refine (words_any _).mono ?_
  rintro e w2 ⟨rfl, rfl⟩
  go_wp2_with fail
  refine (hd _).out.mono ?_
  rintro e w3 ⟨rfl, hb3⟩
  have hcell : w3.cell? ⟨w.heap.size + 1, 2, none⟩ = some (.int .u32 (wordFix q)) := cell_after hb3 (by simp) (by simp)
  have hB : Below w.heap.size w w3 := (((Below.refl w.heap.size w).alloc (Nat.le_refl _) _).alloc (by simp) _).trans (hb3.mono (by simp; omega))
  clear hb3 c0 c1 c2
  go_wp2
  go_ret
  exact ⟨rfl, hB⟩

set_option maxHeartbeats 1000000 in
theorem fnWords_4 (q : Nat) (hq : q < 69) (hK : wordKind q = 4) (w : World) :
    Calls Try.prog 3 #[.int .i64 q] w fun e w' => e = .returned (.bool true) ∧ Below w.heap.size w w' := by
  have hd : ∀ w, Hid (Calls Try.prog 9 #[.string (wordNm q)] w fun e w' => e = .returned (.tuple #[.int .u32 (wordFix q), .bool true]) ∧ Below w.heap.size w w') := fun w =>
    door_4 (wordNm q) (wordFix q) (fun w => word_of (wordNm q) 4 (wordAs q) (wordFix q) (fun w => named_word q hq w) (fun w => zzword_4 (wordAs q) (wordFix q) (fun n c p => by have h := word_op q hq n c p; rw [hK] at h; exact h) w) w) w
  have c0 := word_kind q hq
  rw [hK] at c0
  have c1 := word_name q hq
  have c2 := word_fix q hq
  have h0 : (0 : Int) ≤ (q : Int) := by omega
  have h1 : (q : Int) < 69 := by omega
  clear hK
  go_enter Try.func3, Try.ntmps3
  go_wp2_with fail
  refine (words_any _).mono ?_
  rintro e w2 ⟨rfl, rfl⟩
  go_wp2_with fail
  refine (hd _).out.mono ?_
  rintro e w3 ⟨rfl, hb3⟩
  have hcell : w3.cell? ⟨w.heap.size + 1, 2, none⟩ = some (.int .u32 (wordFix q)) := cell_after hb3 (by simp) (by simp)
  have hB : Below w.heap.size w w3 := (((Below.refl w.heap.size w).alloc (Nat.le_refl _) _).alloc (by simp) _).trans (hb3.mono (by simp; omega))
  clear hb3 c0 c1 c2
  go_wp2
  go_ret
  exact ⟨rfl, hB⟩

set_option maxHeartbeats 1000000 in
theorem fnWords_5 (q : Nat) (hq : q < 69) (hK : wordKind q = 5) (w : World) :
    Calls Try.prog 3 #[.int .i64 q] w fun e w' => e = .returned (.bool true) ∧ Below w.heap.size w w' := by
  have hd : ∀ w, Hid (Calls Try.prog 10 #[.string (wordNm q)] w fun e w' => e = .returned (.tuple #[.int .u32 (wordFix q), .bool true]) ∧ Below w.heap.size w w') := fun w =>
    door_5 (wordNm q) (wordFix q) (fun w => word_of (wordNm q) 5 (wordAs q) (wordFix q) (fun w => named_word q hq w) (fun w => zzword_5 (wordAs q) (wordFix q) (fun n c p => by have h := word_op q hq n c p; rw [hK] at h; exact h) w) w) w
  have c0 := word_kind q hq
  rw [hK] at c0
  have c1 := word_name q hq
  have c2 := word_fix q hq
  have h0 : (0 : Int) ≤ (q : Int) := by omega
  have h1 : (q : Int) < 69 := by omega
  clear hK
  go_enter Try.func3, Try.ntmps3
  go_wp2_with fail
  refine (words_any _).mono ?_
  rintro e w2 ⟨rfl, rfl⟩
  go_wp2_with fail
  refine (hd _).out.mono ?_
  rintro e w3 ⟨rfl, hb3⟩
  have hcell : w3.cell? ⟨w.heap.size + 1, 2, none⟩ = some (.int .u32 (wordFix q)) := cell_after hb3 (by simp) (by simp)
  have hB : Below w.heap.size w w3 := (((Below.refl w.heap.size w).alloc (Nat.le_refl _) _).alloc (by simp) _).trans (hb3.mono (by simp; omega))
  clear hb3 c0 c1 c2
  go_wp2
  go_ret
  exact ⟨rfl, hB⟩

theorem fnWords_any (which : Int) (w : World) :
    Calls Try.prog 3 #[.int .i64 which] w fun e w' => e = .returned (.bool true) ∧ Below w.heap.size w w' := by
  by_cases h : which < 0 ∨ 69 ≤ which
  · exact fnWords_out which h w
  · obtain ⟨q, rfl⟩ := Int.eq_ofNat_of_zero_le (show 0 ≤ which by omega)
    have hq : q < 69 := by omega
    have h6 := wordKind_le q hq
    rcases (show wordKind q = 0 ∨ wordKind q = 1 ∨ wordKind q = 2 ∨ wordKind q = 3 ∨ wordKind q = 4 ∨ wordKind q = 5 by omega) with h | h | h | h | h | h
    · exact fnWords_0 q hq h w
    · exact fnWords_1 q hq h w
    · exact fnWords_2 q hq h w
    · exact fnWords_3 q hq h w
    · exact fnWords_4 q hq h w
    · exact fnWords_5 q hq h w

end Go.Proofs.Ythemphilaahijaa
