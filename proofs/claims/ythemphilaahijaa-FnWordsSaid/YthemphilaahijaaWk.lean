/- The word of an operation by a function: where the function of the kind computes a word of the operation, the call gives it and no errors; the word by a name.
   Conditions: the kind is below 6. -/
import Derived.Test.YthemphilaahijaaNd
import Derived.Test.YthemphilaahijaaWd
namespace Go.Proofs.Ythemphilaahijaa
open Go Go.RowKit

set_option maxHeartbeats 1000000 in
theorem zzword_0 (a v : Int) (hop : ∀ (n : Nat) (c p : Value), Hid (callE Try.prog n 20 17 #[c, p, .int .i16 a] [] = some (.int .u32 v, []))) (w : World) :
    Calls Try.prog 13 #[.int .i64 0, .int .i16 a] w fun e w' => e = .returned (.tuple #[.int .u32 v, .int .i64 0]) ∧ Below w.heap.size w w' := by
  go_enter Try.func13, Try.ntmps13
  go_wp2_with (first | (go_at_call 17; refine (calls_plain _ (hop _ _ _).out).mono ?_; rintro e w1 ⟨rfl, rfl⟩) | fail)
  go_quiet (fail)
  go_wp2
  go_ret2
  exact ⟨rfl, bel_drewN (((Below.refl _ _).alloc (Nat.le_refl _) _).alloc (by simp) _) _⟩

set_option maxHeartbeats 1000000 in
theorem zzword_1 (a v : Int) (hop : ∀ (n : Nat) (c p : Value), Hid (callE Try.prog n 20 18 #[c, p, .int .i16 a] [] = some (.int .u32 v, []))) (w : World) :
    Calls Try.prog 13 #[.int .i64 1, .int .i16 a] w fun e w' => e = .returned (.tuple #[.int .u32 v, .int .i64 0]) ∧ Below w.heap.size w w' := by
  go_enter Try.func13, Try.ntmps13
  go_wp2_with (first | (go_at_call 18; refine (calls_plain _ (hop _ _ _).out).mono ?_; rintro e w1 ⟨rfl, rfl⟩) | fail)
  go_quiet (fail)
  go_wp2
  go_ret2
  exact ⟨rfl, bel_drewN (((Below.refl _ _).alloc (Nat.le_refl _) _).alloc (by simp) _) _⟩

set_option maxHeartbeats 1000000 in
theorem zzword_2 (a v : Int) (hop : ∀ (n : Nat) (c p : Value), Hid (callE Try.prog n 20 19 #[c, p, .int .i16 a] [] = some (.int .u32 v, []))) (w : World) :
    Calls Try.prog 13 #[.int .i64 2, .int .i16 a] w fun e w' => e = .returned (.tuple #[.int .u32 v, .int .i64 0]) ∧ Below w.heap.size w w' := by
  go_enter Try.func13, Try.ntmps13
  go_wp2_with (first | (go_at_call 19; refine (calls_plain _ (hop _ _ _).out).mono ?_; rintro e w1 ⟨rfl, rfl⟩) | fail)
  go_quiet (fail)
  go_wp2
  go_ret2
  exact ⟨rfl, bel_drewN (((Below.refl _ _).alloc (Nat.le_refl _) _).alloc (by simp) _) _⟩

set_option maxHeartbeats 1000000 in
theorem zzword_3 (a v : Int) (hop : ∀ (n : Nat) (c p : Value), Hid (callE Try.prog n 20 20 #[c, p, .int .i16 a] [] = some (.int .u32 v, []))) (w : World) :
    Calls Try.prog 13 #[.int .i64 3, .int .i16 a] w fun e w' => e = .returned (.tuple #[.int .u32 v, .int .i64 0]) ∧ Below w.heap.size w w' := by
  go_enter Try.func13, Try.ntmps13
  go_wp2_with (first | (go_at_call 20; refine (calls_plain _ (hop _ _ _).out).mono ?_; rintro e w1 ⟨rfl, rfl⟩) | fail)
  go_quiet (fail)
  go_wp2
  go_ret2
  exact ⟨rfl, bel_drewN (((Below.refl _ _).alloc (Nat.le_refl _) _).alloc (by simp) _) _⟩

set_option maxHeartbeats 1000000 in
theorem zzword_4 (a v : Int) (hop : ∀ (n : Nat) (c p : Value), Hid (callE Try.prog n 20 21 #[c, p, .int .i16 a] [] = some (.int .u32 v, []))) (w : World) :
    Calls Try.prog 13 #[.int .i64 4, .int .i16 a] w fun e w' => e = .returned (.tuple #[.int .u32 v, .int .i64 0]) ∧ Below w.heap.size w w' := by
  go_enter Try.func13, Try.ntmps13
  go_wp2_with (first | (go_at_call 21; refine (calls_plain _ (hop _ _ _).out).mono ?_; rintro e w1 ⟨rfl, rfl⟩) | fail)
  go_quiet (fail)
  go_wp2
  go_ret2
  exact ⟨rfl, bel_drewN (((Below.refl _ _).alloc (Nat.le_refl _) _).alloc (by simp) _) _⟩

set_option maxHeartbeats 1000000 in
theorem zzword_5 (a v : Int) (hop : ∀ (n : Nat) (c p : Value), Hid (callE Try.prog n 20 22 #[c, p, .int .i16 a] [] = some (.int .u32 v, []))) (w : World) :
    Calls Try.prog 13 #[.int .i64 5, .int .i16 a] w fun e w' => e = .returned (.tuple #[.int .u32 v, .int .i64 0]) ∧ Below w.heap.size w w' := by
  go_enter Try.func13, Try.ntmps13
  go_wp2_with (first | (go_at_call 22; refine (calls_plain _ (hop _ _ _).out).mono ?_; rintro e w1 ⟨rfl, rfl⟩) | fail)
  go_quiet (fail)
  go_wp2
  go_ret2
  exact ⟨rfl, bel_drewN (((Below.refl _ _).alloc (Nat.le_refl _) _).alloc (by simp) _) _⟩

set_option maxHeartbeats 1000000 in
theorem word_of (s : ByteArray) (K a v : Int) (hn : ∀ w, Hid (Calls Try.prog 12 #[.string s] w fun e w' => e = .returned (.tuple #[.int .i16 a, .bool true]) ∧ Below w.heap.size w w'))
    (hz : ∀ w, Hid (Calls Try.prog 13 #[.int .i64 K, .int .i16 a] w fun e w' => e = .returned (.tuple #[.int .u32 v, .int .i64 0]) ∧ Below w.heap.size w w')) (w : World) :
    Calls Try.prog 11 #[.int .i64 K, .string s] w fun e w' => e = .returned (.tuple #[.int .u32 v, .bool true]) ∧ Below w.heap.size w w' := by
  go_enter Try.func11, Try.ntmps11
  go_wp2_with fail
  refine (hn _).out.mono ?_
  rintro e w1 ⟨rfl, hb1⟩
  go_wp2_with fail
  refine (hz _).out.mono ?_
  rintro e w2 ⟨rfl, hb2⟩
  go_wp2
  go_ret2
  exact ⟨rfl, hb1.trans (hb2.mono hb1.size)⟩

theorem door_0 (s : ByteArray) (v : Int) (hw : ∀ w, Hid (Calls Try.prog 11 #[.int .i64 0, .string s] w fun e w' => e = .returned (.tuple #[.int .u32 v, .bool true]) ∧ Below w.heap.size w w')) (w : World) :
    Calls Try.prog 5 #[.string s] w fun e w' => e = .returned (.tuple #[.int .u32 v, .bool true]) ∧ Below w.heap.size w w' := by
  go_enter Try.func5, Try.ntmps5
  go_wp2_with fail
  refine (hw _).out.mono ?_
  rintro e w1 ⟨rfl, hb1⟩
  go_wp2
  go_ret2
  exact ⟨rfl, hb1⟩

theorem door_1 (s : ByteArray) (v : Int) (hw : ∀ w, Hid (Calls Try.prog 11 #[.int .i64 1, .string s] w fun e w' => e = .returned (.tuple #[.int .u32 v, .bool true]) ∧ Below w.heap.size w w')) (w : World) :
    Calls Try.prog 6 #[.string s] w fun e w' => e = .returned (.tuple #[.int .u32 v, .bool true]) ∧ Below w.heap.size w w' := by
  go_enter Try.func6, Try.ntmps6
  go_wp2_with fail
  refine (hw _).out.mono ?_
  rintro e w1 ⟨rfl, hb1⟩
  go_wp2
  go_ret2
  exact ⟨rfl, hb1⟩

theorem door_2 (s : ByteArray) (v : Int) (hw : ∀ w, Hid (Calls Try.prog 11 #[.int .i64 2, .string s] w fun e w' => e = .returned (.tuple #[.int .u32 v, .bool true]) ∧ Below w.heap.size w w')) (w : World) :
    Calls Try.prog 7 #[.string s] w fun e w' => e = .returned (.tuple #[.int .u32 v, .bool true]) ∧ Below w.heap.size w w' := by
  go_enter Try.func7, Try.ntmps7
  go_wp2_with fail
  refine (hw _).out.mono ?_
  rintro e w1 ⟨rfl, hb1⟩
  go_wp2
  go_ret2
  exact ⟨rfl, hb1⟩

theorem door_3 (s : ByteArray) (v : Int) (hw : ∀ w, Hid (Calls Try.prog 11 #[.int .i64 3, .string s] w fun e w' => e = .returned (.tuple #[.int .u32 v, .bool true]) ∧ Below w.heap.size w w')) (w : World) :
    Calls Try.prog 8 #[.string s] w fun e w' => e = .returned (.tuple #[.int .u32 v, .bool true]) ∧ Below w.heap.size w w' := by
  go_enter Try.func8, Try.ntmps8
  go_wp2_with fail
  refine (hw _).out.mono ?_
  rintro e w1 ⟨rfl, hb1⟩
  go_wp2
  go_ret2
  exact ⟨rfl, hb1⟩

theorem door_4 (s : ByteArray) (v : Int) (hw : ∀ w, Hid (Calls Try.prog 11 #[.int .i64 4, .string s] w fun e w' => e = .returned (.tuple #[.int .u32 v, .bool true]) ∧ Below w.heap.size w w')) (w : World) :
    Calls Try.prog 9 #[.string s] w fun e w' => e = .returned (.tuple #[.int .u32 v, .bool true]) ∧ Below w.heap.size w w' := by
  go_enter Try.func9, Try.ntmps9
  go_wp2_with fail
  refine (hw _).out.mono ?_
  rintro e w1 ⟨rfl, hb1⟩
  go_wp2
  go_ret2
  exact ⟨rfl, hb1⟩

theorem door_5 (s : ByteArray) (v : Int) (hw : ∀ w, Hid (Calls Try.prog 11 #[.int .i64 5, .string s] w fun e w' => e = .returned (.tuple #[.int .u32 v, .bool true]) ∧ Below w.heap.size w w')) (w : World) :
    Calls Try.prog 10 #[.string s] w fun e w' => e = .returned (.tuple #[.int .u32 v, .bool true]) ∧ Below w.heap.size w w' := by
  go_enter Try.func10, Try.ntmps10
  go_wp2_with fail
  refine (hw _).out.mono ?_
  rintro e w1 ⟨rfl, hb1⟩
  go_wp2
  go_ret2
  exact ⟨rfl, hb1⟩

end Go.Proofs.Ythemphilaahijaa
