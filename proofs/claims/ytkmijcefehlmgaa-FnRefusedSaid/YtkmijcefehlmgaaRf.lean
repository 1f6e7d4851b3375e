/- What the law FnRefused needs beside: a name that is none is refused by the words with a number; the cases in which the law answers at once.
   Conditions: none for the law; each theorem bears its case. -/
import Derived.Test.YtkmijcefehlmgaaRr
import Derived.Test.YtkmijcefehlmgaaNs
import Derived.Test.YtkmijcefehlmgaaAm
import Derived.ProofKit
import Derived.OpenShut
namespace Go.Proofs.Ytkmijcefehlmgaa
open Go.ChangeShapes Go.WideShapes Go.ChangeAt Go.RowKit

set_option maxHeartbeats 1000000 in
theorem word_unnamed (s : ByteArray) (K a : Int)
    (hn : ∀ w, Hid (Calls Try.prog 10 #[.string s] w fun e w' => e = .returned (.tuple #[.int .i16 a, .bool false]) ∧ Below w.heap.size w w')) (w : World) :
    Calls Try.prog 14 #[.int .i64 K, .string s] w fun e w' => e = .returned (.tuple #[.int .u32 0, .bool false]) ∧ Below w.heap.size w w' := by
  go_enter Try.func14, Try.ntmps14
  go_wp2_with fail
  refine (hn _).out.mono ?_
  rintro e w1 ⟨rfl, hb1⟩
  go_wp2
  go_ret2
  exact ⟨rfl, hb1⟩

theorem irr_unnamed (s : ByteArray) (a : Int)
    (hn : ∀ w, Hid (Calls Try.prog 10 #[.string s] w fun e w' => e = .returned (.tuple #[.int .i16 a, .bool false]) ∧ Below w.heap.size w w')) (w : World) :
    Calls Try.prog 9 #[.string s] w fun e w' => e = .returned (.tuple #[.int .u32 0, .bool false]) ∧ Below w.heap.size w w' := by
  go_enter Try.func9, Try.ntmps9
  go_wp2_with fail
  refine (word_unnamed s 0 a hn _).mono ?_
  rintro e w1 ⟨rfl, hb1⟩
  go_wp2
  go_ret2
  exact ⟨rfl, hb1⟩

theorem three_unright (a b c : Int) (h : ¬ (0 ≤ a ∧ a < 32 ∧ 0 ≤ b ∧ b < 32 ∧ 0 ≤ c ∧ c < 32)) : ∃ k, k < 3 ∧ Hid (three a b c k < 0 ∨ 31 < three a b c k) := by
  by_cases h1 : 0 ≤ a ∧ a < 32
  · by_cases h2 : 0 ≤ b ∧ b < 32
    · exact ⟨2, by omega, by show c < 0 ∨ 31 < c; omega⟩
    · exact ⟨1, by omega, by show b < 0 ∨ 31 < b; omega⟩
  · exact ⟨0, by omega, by show a < 0 ∨ 31 < a; omega⟩

set_option maxHeartbeats 1000000 in
theorem fnRefused_long (which d n m : Int) (s : ByteArray) (hs : (2147483647 : Int) < (s.size : Int)) (w : World) :
    Calls Try.prog 3 #[.int .i64 which, .int .i64 d, .int .i64 n, .int .i64 m, .string s] w fun e w' => e = .returned (.bool true) ∧ Below w.heap.size w w' := by
  go_enter Try.func3, Try.ntmps3
  go_wp2
  go_ret
  exact ⟨rfl, Below.refl _ _⟩

set_option maxHeartbeats 1000000 in
theorem fnRefused_out (which d n m : Int) (s : ByteArray) (hs : (s.size : Int) ≤ 2147483647) (hk : which < 0 ∨ 72 ≤ which) (w : World) :
    Calls Try.prog 3 #[.int .i64 which, .int .i64 d, .int .i64 n, .int .i64 m, .string s] w fun e w' => e = .returned (.bool true) ∧ Below w.heap.size w w' := by
  go_enter Try.func3, Try.ntmps3
  go_wp2_with fail
  refine (rows_any _).mono ?_
  rintro e w2 ⟨rfl, rfl⟩
  by_cases h1 : which < 0
  · go_wp2
    go_ret
    exact ⟨rfl, (Below.refl _ _).alloc (Nat.le_refl _) _⟩
  · have h2 : 72 ≤ which := by omega
    go_wp2
    go_ret
    exact ⟨rfl, (Below.refl _ _).alloc (Nat.le_refl _) _⟩

set_option maxHeartbeats 1000000 in
theorem fnRefused_right (q : Nat) (d n m : Int) (s : ByteArray) (hq : q < 72) (hs : (s.size : Int) ≤ 2147483647) (h1 : 0 ≤ d) (h2 : d < 32) (h3 : 0 ≤ n) (h4 : n < 32) (h5 : 0 ≤ m) (h6 : m < 32) (w : World) :
    Calls Try.prog 3 #[.int .i64 q, .int .i64 d, .int .i64 n, .int .i64 m, .string s] w fun e w' => e = .returned (.bool true) ∧ Below w.heap.size w w' := by
  have q0 : (0 : Int) ≤ (q : Int) := by omega
  have q1 : (q : Int) < 72 := by omega
  go_enter Try.func3, Try.ntmps3
  go_wp2_with fail
  refine (rows_any _).mono ?_
  rintro e w2 ⟨rfl, rfl⟩
  go_wp2_with fail
  refine (right_yes d n m h1 h2 h3 h4 h5 h6 _).mono ?_
  rintro e w3 ⟨rfl, rfl⟩
  go_wp2
  go_ret
  exact ⟨rfl, (Below.refl _ _).alloc (Nat.le_refl _) _⟩

set_option maxHeartbeats 1000000 in
theorem fnRefused_longer (q : Nat) (d n m : Int) (s : ByteArray) (hq : q < 72) (hs : (s.size : Int) ≤ 2147483647) (hl : (100 : Int) < (s.size : Int)) (hr : Hid (¬ (0 ≤ d ∧ d < 32 ∧ 0 ≤ n ∧ n < 32 ∧ 0 ≤ m ∧ m < 32))) (w : World) :
    Calls Try.prog 3 #[.int .i64 q, .int .i64 d, .int .i64 n, .int .i64 m, .string s] w fun e w' => e = .returned (.bool true) ∧ Below w.heap.size w w' := by
  have q0 : (0 : Int) ≤ (q : Int) := by omega
  have q1 : (q : Int) < 72 := by omega
  go_enter Try.func3, Try.ntmps3
  go_wp2_with fail
  refine (rows_any _).mono ?_
  rintro e w2 ⟨rfl, rfl⟩
  go_wp2_with fail
  refine (right_no d n m hr.out _).mono ?_
  rintro e w3 ⟨rfl, rfl⟩
  go_wp2
  go_ret
  exact ⟨rfl, (Below.refl _ _).alloc (Nat.le_refl _) _⟩

end Go.Proofs.Ytkmijcefehlmgaa
