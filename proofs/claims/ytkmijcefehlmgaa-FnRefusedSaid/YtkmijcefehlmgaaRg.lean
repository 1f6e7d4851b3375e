/- The law FnRefused where registers are none: the name is among the names, or it is one that all machines have, or it is none.
   Conditions: none for the law; each theorem bears its case. -/
import Derived.Test.YtkmijcefehlmgaaRf
namespace Go.Proofs.Ytkmijcefehlmgaa
open Go.ChangeShapes Go.WideShapes Go.ChangeAt Go.RowKit

set_option maxHeartbeats 2000000 in
theorem fnRefused_among (q : Nat) (d n m : Int) (s : ByteArray) (hq : q < 72) (hs : (s.size : Int) ≤ 100) (hr : Hid (¬ (0 ≤ d ∧ d < 32 ∧ 0 ≤ n ∧ n < 32 ∧ 0 ≤ m ∧ m < 32))) (k : Nat) (hk : k < 645) (hks : Hid (nm k = s)) (w : World) :
    Calls Try.prog 3 #[.int .i64 q, .int .i64 d, .int .i64 n, .int .i64 m, .string s] w fun e w' => e = .returned (.bool true) ∧ Below w.heap.size w w' := by
  obtain ⟨k3, hk3, hf3⟩ := three_unright d n m hr.out
  have q0 : (0 : Int) ≤ (q : Int) := by omega
  have q1 : (q : Int) < 72 := by omega
  have c1 := row_name q hq
  go_enter Try.func3, Try.ntmps3
  go_wp2_with fail
  refine (rows_any _).mono ?_
  rintro e w2 ⟨rfl, rfl⟩
  go_wp2_with fail
  refine (right_no d n m hr.out _).mono ?_
  rintro e w3 ⟨rfl, rfl⟩
  go_wp2_with fail
  refine (rrr_unright (nm (rowIx q)) (10255 + (rowIx q : Int)) d n m k3 hk3 hf3 (fun w => named_row q hq w) _).mono ?_
  rintro e w3 ⟨rfl, hb3⟩
  have hcell : w3.cell? ⟨w.heap.size, q * 4, none⟩ = some (.string (nm (rowIx q))) := cell_after hb3 (by simp) (by simpa using c1)
  have hB3 : Below w.heap.size w w3 := ((Below.refl w.heap.size w).alloc (Nat.le_refl _) _).trans (hb3.mono (by simp))
  clear hb3 c1
  go_wp2_with fail
  refine (rrr_row q hq 1 2 3 (by omega) (by omega) (by omega) (by omega) (by omega) (by omega) _).mono ?_
  rintro e w4 ⟨rfl, hb4⟩
  have hB4 : Below w.heap.size w w4 := hB3.trans (hb4.mono hB3.size)
  clear hb4 hcell hB3
  go_wp2_with fail
  refine (names_any _).mono ?_
  rintro e w5 ⟨v, rfl, hown, hb5⟩
  obtain ⟨g, cap, rfl, hcap, hg, hcell⟩ := names_slice w4 v w5 hown
  have hB5 : Below w.heap.size w w5 := hB4.trans (hb5.mono hB4.size)
  have hc2 : ∀ j, j < 645 → Hid (w5.cell? ⟨g, 0 + j, none⟩ = some (.string (nm j))) := by
    intro j hj
    rw [Nat.zero_add]
    exact hcell j hj
  clear hown hb5 hB4 hcell
  go_wp2_with fail
  refine (among_yes g 0 645 cap k nm s _ (by omega) hk hc2 hks).mono ?_
  rintro e w6 ⟨rfl, rfl⟩
  go_wp2
  go_ret
  exact ⟨rfl, hB5⟩


set_option maxHeartbeats 2000000 in
theorem fnRefused_common1 (q : Nat) (d n m : Int) (s : ByteArray) (hq : q < 72) (hs : (s.size : Int) ≤ 100) (hr : Hid (¬ (0 ≤ d ∧ d < 32 ∧ 0 ≤ n ∧ n < 32 ∧ 0 ≤ m ∧ m < 32))) (hne : ∀ j, j < 645 → Hid (((nm j).toList == s.toList) = false)) (e1 : (s.toList == [67, 65, 76, 76]) = true) (w : World) :
    Calls Try.prog 3 #[.int .i64 q, .int .i64 d, .int .i64 n, .int .i64 m, .string s] w fun e w' => e = .returned (.bool true) ∧ Below w.heap.size w w' := by
  obtain ⟨k3, hk3, hf3⟩ := three_unright d n m hr.out
  have q0 : (0 : Int) ≤ (q : Int) := by omega
  have q1 : (q : Int) < 72 := by omega
  have c1 := row_name q hq
  go_enter Try.func3, Try.ntmps3
  go_wp2_with fail
  refine (rows_any _).mono ?_
  rintro e w2 ⟨rfl, rfl⟩
  go_wp2_with fail
  refine (right_no d n m hr.out _).mono ?_
  rintro e w3 ⟨rfl, rfl⟩
  go_wp2_with fail
  refine (rrr_unright (nm (rowIx q)) (10255 + (rowIx q : Int)) d n m k3 hk3 hf3 (fun w => named_row q hq w) _).mono ?_
  rintro e w3 ⟨rfl, hb3⟩
  have hcell : w3.cell? ⟨w.heap.size, q * 4, none⟩ = some (.string (nm (rowIx q))) := cell_after hb3 (by simp) (by simpa using c1)
  have hB3 : Below w.heap.size w w3 := ((Below.refl w.heap.size w).alloc (Nat.le_refl _) _).trans (hb3.mono (by simp))
  clear hb3 c1
  go_wp2_with fail
  refine (rrr_row q hq 1 2 3 (by omega) (by omega) (by omega) (by omega) (by omega) (by omega) _).mono ?_
  rintro e w4 ⟨rfl, hb4⟩
  have hB4 : Below w.heap.size w w4 := hB3.trans (hb4.mono hB3.size)
  clear hb4 hcell hB3
  go_wp2_with fail
  refine (names_any _).mono ?_
  rintro e w5 ⟨v, rfl, hown, hb5⟩
  obtain ⟨g, cap, rfl, hcap, hg, hcell⟩ := names_slice w4 v w5 hown
  have hB5 : Below w.heap.size w w5 := hB4.trans (hb5.mono hB4.size)
  have hc2 : ∀ j, j < 645 → Hid (w5.cell? ⟨g, 0 + j, none⟩ = some (.string (nm j))) := by
    intro j hj
    rw [Nat.zero_add]
    exact hcell j hj
  clear hown hb5 hB4 hcell
  go_wp2_with fail
  refine (among_no g 0 645 cap nm s _ (by omega) hc2 hne).mono ?_
  rintro e w6 ⟨rfl, rfl⟩
  go_wp2
  go_ret
  exact ⟨rfl, hB5⟩


set_option maxHeartbeats 2000000 in
theorem fnRefused_common2 (q : Nat) (d n m : Int) (s : ByteArray) (hq : q < 72) (hs : (s.size : Int) ≤ 100) (hr : Hid (¬ (0 ≤ d ∧ d < 32 ∧ 0 ≤ n ∧ n < 32 ∧ 0 ≤ m ∧ m < 32))) (hne : ∀ j, j < 645 → Hid (((nm j).toList == s.toList) = false)) (e1 : (s.toList == [67, 65, 76, 76]) = false) (e2 : (s.toList == [74, 77, 80]) = true) (w : World) :
    Calls Try.prog 3 #[.int .i64 q, .int .i64 d, .int .i64 n, .int .i64 m, .string s] w fun e w' => e = .returned (.bool true) ∧ Below w.heap.size w w' := by
  obtain ⟨k3, hk3, hf3⟩ := three_unright d n m hr.out
  have q0 : (0 : Int) ≤ (q : Int) := by omega
  have q1 : (q : Int) < 72 := by omega
  have c1 := row_name q hq
  go_enter Try.func3, Try.ntmps3
  go_wp2_with fail
  refine (rows_any _).mono ?_
  rintro e w2 ⟨rfl, rfl⟩
  go_wp2_with fail
  refine (right_no d n m hr.out _).mono ?_
  rintro e w3 ⟨rfl, rfl⟩
  go_wp2_with fail
  refine (rrr_unright (nm (rowIx q)) (10255 + (rowIx q : Int)) d n m k3 hk3 hf3 (fun w => named_row q hq w) _).mono ?_
  rintro e w3 ⟨rfl, hb3⟩
  have hcell : w3.cell? ⟨w.heap.size, q * 4, none⟩ = some (.string (nm (rowIx q))) := cell_after hb3 (by simp) (by simpa using c1)
  have hB3 : Below w.heap.size w w3 := ((Below.refl w.heap.size w).alloc (Nat.le_refl _) _).trans (hb3.mono (by simp))
  clear hb3 c1
  go_wp2_with fail
  refine (rrr_row q hq 1 2 3 (by omega) (by omega) (by omega) (by omega) (by omega) (by omega) _).mono ?_
  rintro e w4 ⟨rfl, hb4⟩
  have hB4 : Below w.heap.size w w4 := hB3.trans (hb4.mono hB3.size)
  clear hb4 hcell hB3
  go_wp2_with fail
  refine (names_any _).mono ?_
  rintro e w5 ⟨v, rfl, hown, hb5⟩
  obtain ⟨g, cap, rfl, hcap, hg, hcell⟩ := names_slice w4 v w5 hown
  have hB5 : Below w.heap.size w w5 := hB4.trans (hb5.mono hB4.size)
  have hc2 : ∀ j, j < 645 → Hid (w5.cell? ⟨g, 0 + j, none⟩ = some (.string (nm j))) := by
    intro j hj
    rw [Nat.zero_add]
    exact hcell j hj
  clear hown hb5 hB4 hcell
  go_wp2_with fail
  refine (among_no g 0 645 cap nm s _ (by omega) hc2 hne).mono ?_
  rintro e w6 ⟨rfl, rfl⟩
  go_wp2
  go_ret
  exact ⟨rfl, hB5⟩


set_option maxHeartbeats 2000000 in
theorem fnRefused_common3 (q : Nat) (d n m : Int) (s : ByteArray) (hq : q < 72) (hs : (s.size : Int) ≤ 100) (hr : Hid (¬ (0 ≤ d ∧ d < 32 ∧ 0 ≤ n ∧ n < 32 ∧ 0 ≤ m ∧ m < 32))) (hne : ∀ j, j < 645 → Hid (((nm j).toList == s.toList) = false)) (e1 : (s.toList == [67, 65, 76, 76]) = false) (e2 : (s.toList == [74, 77, 80]) = false) (e3 : (s.toList == [82, 69, 84]) = true) (w : World) :
    Calls Try.prog 3 #[.int .i64 q, .int .i64 d, .int .i64 n, .int .i64 m, .string s] w fun e w' => e = .returned (.bool true) ∧ Below w.heap.size w w' := by
  obtain ⟨k3, hk3, hf3⟩ := three_unright d n m hr.out
  have q0 : (0 : Int) ≤ (q : Int) := by omega
  have q1 : (q : Int) < 72 := by omega
  have c1 := row_name q hq
  go_enter Try.func3, Try.ntmps3
  go_wp2_with fail
  refine (rows_any _).mono ?_
  rintro e w2 ⟨rfl, rfl⟩
  go_wp2_with fail
  refine (right_no d n m hr.out _).mono ?_
  rintro e w3 ⟨rfl, rfl⟩
  go_wp2_with fail
  refine (rrr_unright (nm (rowIx q)) (10255 + (rowIx q : Int)) d n m k3 hk3 hf3 (fun w => named_row q hq w) _).mono ?_
  rintro e w3 ⟨rfl, hb3⟩
  have hcell : w3.cell? ⟨w.heap.size, q * 4, none⟩ = some (.string (nm (rowIx q))) := cell_after hb3 (by simp) (by simpa using c1)
  have hB3 : Below w.heap.size w w3 := ((Below.refl w.heap.size w).alloc (Nat.le_refl _) _).trans (hb3.mono (by simp))
  clear hb3 c1
  go_wp2_with fail
  refine (rrr_row q hq 1 2 3 (by omega) (by omega) (by omega) (by omega) (by omega) (by omega) _).mono ?_
  rintro e w4 ⟨rfl, hb4⟩
  have hB4 : Below w.heap.size w w4 := hB3.trans (hb4.mono hB3.size)
  clear hb4 hcell hB3
  go_wp2_with fail
  refine (names_any _).mono ?_
  rintro e w5 ⟨v, rfl, hown, hb5⟩
  obtain ⟨g, cap, rfl, hcap, hg, hcell⟩ := names_slice w4 v w5 hown
  have hB5 : Below w.heap.size w w5 := hB4.trans (hb5.mono hB4.size)
  have hc2 : ∀ j, j < 645 → Hid (w5.cell? ⟨g, 0 + j, none⟩ = some (.string (nm j))) := by
    intro j hj
    rw [Nat.zero_add]
    exact hcell j hj
  clear hown hb5 hB4 hcell
  go_wp2_with fail
  refine (among_no g 0 645 cap nm s _ (by omega) hc2 hne).mono ?_
  rintro e w6 ⟨rfl, rfl⟩
  go_wp2
  go_ret
  exact ⟨rfl, hB5⟩


set_option maxHeartbeats 2000000 in
theorem fnRefused_common4 (q : Nat) (d n m : Int) (s : ByteArray) (hq : q < 72) (hs : (s.size : Int) ≤ 100) (hr : Hid (¬ (0 ≤ d ∧ d < 32 ∧ 0 ≤ n ∧ n < 32 ∧ 0 ≤ m ∧ m < 32))) (hne : ∀ j, j < 645 → Hid (((nm j).toList == s.toList) = false)) (e1 : (s.toList == [67, 65, 76, 76]) = false) (e2 : (s.toList == [74, 77, 80]) = false) (e3 : (s.toList == [82, 69, 84]) = false) (e4 : (s.toList == [85, 78, 68, 69, 70]) = true) (w : World) :
    Calls Try.prog 3 #[.int .i64 q, .int .i64 d, .int .i64 n, .int .i64 m, .string s] w fun e w' => e = .returned (.bool true) ∧ Below w.heap.size w w' := by
  obtain ⟨k3, hk3, hf3⟩ := three_unright d n m hr.out
  have q0 : (0 : Int) ≤ (q : Int) := by omega
  have q1 : (q : Int) < 72 := by omega
  have c1 := row_name q hq
  go_enter Try.func3, Try.ntmps3
  go_wp2_with fail
  refine (rows_any _).mono ?_
  rintro e w2 ⟨rfl, rfl⟩
  go_wp2_with fail
  refine (right_no d n m hr.out _).mono ?_
  rintro e w3 ⟨rfl, rfl⟩
  go_wp2_with fail
  refine (rrr_unright (nm (rowIx q)) (10255 + (rowIx q : Int)) d n m k3 hk3 hf3 (fun w => named_row q hq w) _).mono ?_
  rintro e w3 ⟨rfl, hb3⟩
  have hcell : w3.cell? ⟨w.heap.size, q * 4, none⟩ = some (.string (nm (rowIx q))) := cell_after hb3 (by simp) (by simpa using c1)
  have hB3 : Below w.heap.size w w3 := ((Below.refl w.heap.size w).alloc (Nat.le_refl _) _).trans (hb3.mono (by simp))
  clear hb3 c1
  go_wp2_with fail
  refine (rrr_row q hq 1 2 3 (by omega) (by omega) (by omega) (by omega) (by omega) (by omega) _).mono ?_
  rintro e w4 ⟨rfl, hb4⟩
  have hB4 : Below w.heap.size w w4 := hB3.trans (hb4.mono hB3.size)
  clear hb4 hcell hB3
  go_wp2_with fail
  refine (names_any _).mono ?_
  rintro e w5 ⟨v, rfl, hown, hb5⟩
  obtain ⟨g, cap, rfl, hcap, hg, hcell⟩ := names_slice w4 v w5 hown
  have hB5 : Below w.heap.size w w5 := hB4.trans (hb5.mono hB4.size)
  have hc2 : ∀ j, j < 645 → Hid (w5.cell? ⟨g, 0 + j, none⟩ = some (.string (nm j))) := by
    intro j hj
    rw [Nat.zero_add]
    exact hcell j hj
  clear hown hb5 hB4 hcell
  go_wp2_with fail
  refine (among_no g 0 645 cap nm s _ (by omega) hc2 hne).mono ?_
  rintro e w6 ⟨rfl, rfl⟩
  go_wp2
  go_ret
  exact ⟨rfl, hB5⟩


set_option maxHeartbeats 2000000 in
theorem fnRefused_common5 (q : Nat) (d n m : Int) (s : ByteArray) (hq : q < 72) (hs : (s.size : Int) ≤ 100) (hr : Hid (¬ (0 ≤ d ∧ d < 32 ∧ 0 ≤ n ∧ n < 32 ∧ 0 ≤ m ∧ m < 32))) (hne : ∀ j, j < 645 → Hid (((nm j).toList == s.toList) = false)) (e1 : (s.toList == [67, 65, 76, 76]) = false) (e2 : (s.toList == [74, 77, 80]) = false) (e3 : (s.toList == [82, 69, 84]) = false) (e4 : (s.toList == [85, 78, 68, 69, 70]) = false) (e5 : (s.toList == [78, 79, 80]) = true) (w : World) :
    Calls Try.prog 3 #[.int .i64 q, .int .i64 d, .int .i64 n, .int .i64 m, .string s] w fun e w' => e = .returned (.bool true) ∧ Below w.heap.size w w' := by
  obtain ⟨k3, hk3, hf3⟩ := three_unright d n m hr.out
  have q0 : (0 : Int) ≤ (q : Int) := by omega
  have q1 : (q : Int) < 72 := by omega
  have c1 := row_name q hq
  go_enter Try.func3, Try.ntmps3
  go_wp2_with fail
  refine (rows_any _).mono ?_
  rintro e w2 ⟨rfl, rfl⟩
  go_wp2_with fail
  refine (right_no d n m hr.out _).mono ?_
  rintro e w3 ⟨rfl, rfl⟩
  go_wp2_with fail
  refine (rrr_unright (nm (rowIx q)) (10255 + (rowIx q : Int)) d n m k3 hk3 hf3 (fun w => named_row q hq w) _).mono ?_
  rintro e w3 ⟨rfl, hb3⟩
  have hcell : w3.cell? ⟨w.heap.size, q * 4, none⟩ = some (.string (nm (rowIx q))) := cell_after hb3 (by simp) (by simpa using c1)
  have hB3 : Below w.heap.size w w3 := ((Below.refl w.heap.size w).alloc (Nat.le_refl _) _).trans (hb3.mono (by simp))
  clear hb3 c1
  go_wp2_with fail
  refine (rrr_row q hq 1 2 3 (by omega) (by omega) (by omega) (by omega) (by omega) (by omega) _).mono ?_
  rintro e w4 ⟨rfl, hb4⟩
  have hB4 : Below w.heap.size w w4 := hB3.trans (hb4.mono hB3.size)
  clear hb4 hcell hB3
  go_wp2_with fail
  refine (names_any _).mono ?_
  rintro e w5 ⟨v, rfl, hown, hb5⟩
  obtain ⟨g, cap, rfl, hcap, hg, hcell⟩ := names_slice w4 v w5 hown
  have hB5 : Below w.heap.size w w5 := hB4.trans (hb5.mono hB4.size)
  have hc2 : ∀ j, j < 645 → Hid (w5.cell? ⟨g, 0 + j, none⟩ = some (.string (nm j))) := by
    intro j hj
    rw [Nat.zero_add]
    exact hcell j hj
  clear hown hb5 hB4 hcell
  go_wp2_with fail
  refine (among_no g 0 645 cap nm s _ (by omega) hc2 hne).mono ?_
  rintro e w6 ⟨rfl, rfl⟩
  go_wp2
  go_ret
  exact ⟨rfl, hB5⟩


set_option maxHeartbeats 2000000 in
theorem fnRefused_common6 (q : Nat) (d n m : Int) (s : ByteArray) (hq : q < 72) (hs : (s.size : Int) ≤ 100) (hr : Hid (¬ (0 ≤ d ∧ d < 32 ∧ 0 ≤ n ∧ n < 32 ∧ 0 ≤ m ∧ m < 32))) (hne : ∀ j, j < 645 → Hid (((nm j).toList == s.toList) = false)) (e1 : (s.toList == [67, 65, 76, 76]) = false) (e2 : (s.toList == [74, 77, 80]) = false) (e3 : (s.toList == [82, 69, 84]) = false) (e4 : (s.toList == [85, 78, 68, 69, 70]) = false) (e5 : (s.toList == [78, 79, 80]) = false) (e6 : (s.toList == [68, 85, 70, 70, 90, 69, 82, 79]) = true) (w : World) :
    Calls Try.prog 3 #[.int .i64 q, .int .i64 d, .int .i64 n, .int .i64 m, .string s] w fun e w' => e = .returned (.bool true) ∧ Below w.heap.size w w' := by
  obtain ⟨k3, hk3, hf3⟩ := three_unright d n m hr.out
  have q0 : (0 : Int) ≤ (q : Int) := by omega
  have q1 : (q : Int) < 72 := by omega
  have c1 := row_name q hq
  go_enter Try.func3, Try.ntmps3
  go_wp2_with fail
  refine (rows_any _).mono ?_
  rintro e w2 ⟨rfl, rfl⟩
  go_wp2_with fail
  refine (right_no d n m hr.out _).mono ?_
  rintro e w3 ⟨rfl, rfl⟩
  go_wp2_with fail
  refine (rrr_unright (nm (rowIx q)) (10255 + (rowIx q : Int)) d n m k3 hk3 hf3 (fun w => named_row q hq w) _).mono ?_
  rintro e w3 ⟨rfl, hb3⟩
  have hcell : w3.cell? ⟨w.heap.size, q * 4, none⟩ = some (.string (nm (rowIx q))) := cell_after hb3 (by simp) (by simpa using c1)
  have hB3 : Below w.heap.size w w3 := ((Below.refl w.heap.size w).alloc (Nat.le_refl _) _).trans (hb3.mono (by simp))
  clear hb3 c1
  go_wp2_with fail
  refine (rrr_row q hq 1 2 3 (by omega) (by omega) (by omega) (by omega) (by omega) (by omega) _).mono ?_
  rintro e w4 ⟨rfl, hb4⟩
  have hB4 : Below w.heap.size w w4 := hB3.trans (hb4.mono hB3.size)
  clear hb4 hcell hB3
  go_wp2_with fail
  refine (names_any _).mono ?_
  rintro e w5 ⟨v, rfl, hown, hb5⟩
  obtain ⟨g, cap, rfl, hcap, hg, hcell⟩ := names_slice w4 v w5 hown
  have hB5 : Below w.heap.size w w5 := hB4.trans (hb5.mono hB4.size)
  have hc2 : ∀ j, j < 645 → Hid (w5.cell? ⟨g, 0 + j, none⟩ = some (.string (nm j))) := by
    intro j hj
    rw [Nat.zero_add]
    exact hcell j hj
  clear hown hb5 hB4 hcell
  go_wp2_with fail
  refine (among_no g 0 645 cap nm s _ (by omega) hc2 hne).mono ?_
  rintro e w6 ⟨rfl, rfl⟩
  go_wp2
  go_ret
  exact ⟨rfl, hB5⟩


set_option maxHeartbeats 2000000 in
theorem fnRefused_common7 (q : Nat) (d n m : Int) (s : ByteArray) (hq : q < 72) (hs : (s.size : Int) ≤ 100) (hr : Hid (¬ (0 ≤ d ∧ d < 32 ∧ 0 ≤ n ∧ n < 32 ∧ 0 ≤ m ∧ m < 32))) (hne : ∀ j, j < 645 → Hid (((nm j).toList == s.toList) = false)) (e1 : (s.toList == [67, 65, 76, 76]) = false) (e2 : (s.toList == [74, 77, 80]) = false) (e3 : (s.toList == [82, 69, 84]) = false) (e4 : (s.toList == [85, 78, 68, 69, 70]) = false) (e5 : (s.toList == [78, 79, 80]) = false) (e6 : (s.toList == [68, 85, 70, 70, 90, 69, 82, 79]) = false) (e7 : (s.toList == [68, 85, 70, 70, 67, 79, 80, 89]) = true) (w : World) :
    Calls Try.prog 3 #[.int .i64 q, .int .i64 d, .int .i64 n, .int .i64 m, .string s] w fun e w' => e = .returned (.bool true) ∧ Below w.heap.size w w' := by
  obtain ⟨k3, hk3, hf3⟩ := three_unright d n m hr.out
  have q0 : (0 : Int) ≤ (q : Int) := by omega
  have q1 : (q : Int) < 72 := by omega
  have c1 := row_name q hq
  go_enter Try.func3, Try.ntmps3
  go_wp2_with fail
  refine (rows_any _).mono ?_
  rintro e w2 ⟨rfl, rfl⟩
  go_wp2_with fail
  refine (right_no d n m hr.out _).mono ?_
  rintro e w3 ⟨rfl, rfl⟩
  go_wp2_with fail
  refine (rrr_unright (nm (rowIx q)) (10255 + (rowIx q : Int)) d n m k3 hk3 hf3 (fun w => named_row q hq w) _).mono ?_
  rintro e w3 ⟨rfl, hb3⟩
  have hcell : w3.cell? ⟨w.heap.size, q * 4, none⟩ = some (.string (nm (rowIx q))) := cell_after hb3 (by simp) (by simpa using c1)
  have hB3 : Below w.heap.size w w3 := ((Below.refl w.heap.size w).alloc (Nat.le_refl _) _).trans (hb3.mono (by simp))
  clear hb3 c1
  go_wp2_with fail
  refine (rrr_row q hq 1 2 3 (by omega) (by omega) (by omega) (by omega) (by omega) (by omega) _).mono ?_
  rintro e w4 ⟨rfl, hb4⟩
  have hB4 : Below w.heap.size w w4 := hB3.trans (hb4.mono hB3.size)
  clear hb4 hcell hB3
  go_wp2_with fail
  refine (names_any _).mono ?_
  rintro e w5 ⟨v, rfl, hown, hb5⟩
  obtain ⟨g, cap, rfl, hcap, hg, hcell⟩ := names_slice w4 v w5 hown
  have hB5 : Below w.heap.size w w5 := hB4.trans (hb5.mono hB4.size)
  have hc2 : ∀ j, j < 645 → Hid (w5.cell? ⟨g, 0 + j, none⟩ = some (.string (nm j))) := by
    intro j hj
    rw [Nat.zero_add]
    exact hcell j hj
  clear hown hb5 hB4 hcell
  go_wp2_with fail
  refine (among_no g 0 645 cap nm s _ (by omega) hc2 hne).mono ?_
  rintro e w6 ⟨rfl, rfl⟩
  go_wp2
  go_ret
  exact ⟨rfl, hB5⟩


set_option maxHeartbeats 2000000 in
theorem fnRefused_none (q : Nat) (d n m : Int) (s : ByteArray) (hq : q < 72) (hs : (s.size : Int) ≤ 100) (hr : Hid (¬ (0 ≤ d ∧ d < 32 ∧ 0 ≤ n ∧ n < 32 ∧ 0 ≤ m ∧ m < 32))) (hne : ∀ j, j < 645 → Hid (((nm j).toList == s.toList) = false)) (e1 : (s.toList == [67, 65, 76, 76]) = false) (e2 : (s.toList == [74, 77, 80]) = false) (e3 : (s.toList == [82, 69, 84]) = false) (e4 : (s.toList == [85, 78, 68, 69, 70]) = false) (e5 : (s.toList == [78, 79, 80]) = false) (e6 : (s.toList == [68, 85, 70, 70, 90, 69, 82, 79]) = false) (e7 : (s.toList == [68, 85, 70, 70, 67, 79, 80, 89]) = false) (w : World) :
    Calls Try.prog 3 #[.int .i64 q, .int .i64 d, .int .i64 n, .int .i64 m, .string s] w fun e w' => e = .returned (.bool true) ∧ Below w.heap.size w w' := by
  obtain ⟨k3, hk3, hf3⟩ := three_unright d n m hr.out
  have q0 : (0 : Int) ≤ (q : Int) := by omega
  have q1 : (q : Int) < 72 := by omega
  have c1 := row_name q hq
  go_enter Try.func3, Try.ntmps3
  go_wp2_with fail
  refine (rows_any _).mono ?_
  rintro e w2 ⟨rfl, rfl⟩
  go_wp2_with fail
  refine (right_no d n m hr.out _).mono ?_
  rintro e w3 ⟨rfl, rfl⟩
  go_wp2_with fail
  refine (rrr_unright (nm (rowIx q)) (10255 + (rowIx q : Int)) d n m k3 hk3 hf3 (fun w => named_row q hq w) _).mono ?_
  rintro e w3 ⟨rfl, hb3⟩
  have hcell : w3.cell? ⟨w.heap.size, q * 4, none⟩ = some (.string (nm (rowIx q))) := cell_after hb3 (by simp) (by simpa using c1)
  have hB3 : Below w.heap.size w w3 := ((Below.refl w.heap.size w).alloc (Nat.le_refl _) _).trans (hb3.mono (by simp))
  clear hb3 c1
  go_wp2_with fail
  refine (rrr_row q hq 1 2 3 (by omega) (by omega) (by omega) (by omega) (by omega) (by omega) _).mono ?_
  rintro e w4 ⟨rfl, hb4⟩
  have hB4 : Below w.heap.size w w4 := hB3.trans (hb4.mono hB3.size)
  clear hb4 hcell hB3
  go_wp2_with fail
  refine (names_any _).mono ?_
  rintro e w5 ⟨v, rfl, hown, hb5⟩
  obtain ⟨g, cap, rfl, hcap, hg, hcell⟩ := names_slice w4 v w5 hown
  have hB5 : Below w.heap.size w w5 := hB4.trans (hb5.mono hB4.size)
  have hc2 : ∀ j, j < 645 → Hid (w5.cell? ⟨g, 0 + j, none⟩ = some (.string (nm j))) := by
    intro j hj
    rw [Nat.zero_add]
    exact hcell j hj
  clear hown hb5 hB4 hcell
  go_wp2_with fail
  refine (among_no g 0 645 cap nm s _ (by omega) hc2 hne).mono ?_
  rintro e w6 ⟨rfl, rfl⟩
  have hnone : ∀ w, Hid (Calls Try.prog 10 #[.string s] w fun e w' => e = .returned (.tuple #[.int .i16 0, .bool false]) ∧ Below w.heap.size w w') := fun w =>
    named_out s 0 false (fun w => common_no s w e1 e2 e3 e4 e5 e6 e7) (fun j hj => (hne j hj).out) w
  go_wp2_with fail
  refine (rrr_unnamed s 0 1 2 3 hnone _).mono ?_
  rintro e w7 ⟨rfl, hb7⟩
  go_wp2_with fail
  refine (irr_unnamed s 0 hnone _).mono ?_
  rintro e w8 ⟨rfl, hb8⟩
  have hB7 := hB5.trans (hb7.mono hB5.size)
  have hB8 := hB7.trans (hb8.mono hB7.size)
  clear hb7 hb8 hB5 hB7
  go_wp2
  go_ret
  exact ⟨rfl, hB8⟩


end Go.Proofs.Ytkmijcefehlmgaa
