/- The operation of a name: a name of the list gives its operation and true; any other name gives what ZZCommon gives of it. What was there before the call is as it was.
   Conditions: none. -/
import Derived.Test.YtkmijcefehlmgaaZn
namespace Go.Proofs.Ytkmijcefehlmgaa
open Go Go.RowKit

set_option maxHeartbeats 400000 in
theorem as_in (k : Nat) (hk : k < 645) (w : World) :
    Calls Try.prog 16 #[.int .i64 k] w fun e w' => e = .returned (.int .i16 (10255 + k)) ∧ w = w' := by
  have h0 : (0 : Int) ≤ (k : Int) := by omega
  have h1 : (k : Int) < 645 := by omega
  go_enter Try.func16, Try.ntmps16
  go_wp2
  go_ret
  exact ⟨rfl, rfl⟩

set_option maxHeartbeats 400000 in
theorem common_no (s : ByteArray) (w : World) (c1 : (s.toList == [67, 65, 76, 76]) = false) (c2 : (s.toList == [74, 77, 80]) = false) (c3 : (s.toList == [82, 69, 84]) = false)
    (c4 : (s.toList == [85, 78, 68, 69, 70]) = false) (c5 : (s.toList == [78, 79, 80]) = false) (c6 : (s.toList == [68, 85, 70, 70, 90, 69, 82, 79]) = false)
    (c7 : (s.toList == [68, 85, 70, 70, 67, 79, 80, 89]) = false) :
    Calls Try.prog 15 #[.string s] w fun e w' => e = .returned (.tuple #[.int .i16 0, .bool false]) ∧ w = w' := by
  go_enter Try.func15, Try.ntmps15
  go_wp2
  go_ret2
  exact ⟨rfl, rfl⟩

set_option maxHeartbeats 1000000 in
theorem named_in (s : ByteArray) (k : Nat) (hk : k < 645) (hs : Hid (nm k = s)) (hne : Hid (∀ j, j < k → ((nm j).toList == s.toList) = false)) (w : World) :
    Calls Try.prog 10 #[.string s] w fun e w' => e = .returned (.tuple #[.int .i16 (10255 + k), .bool true]) ∧ Below w.heap.size w w' := by
  go_enter Try.func10, Try.ntmps10
  go_wp2_with fail
  go_loopw [4] (fun i wr => ∃ j : Nat, j ≤ k ∧ i = .int .i64 j ∧ Below w.heap.size w wr) (fun i _ => k - (intOf i).toNat)
  case atStart => exact ⟨0, Nat.zero_le _, rfl, Below.refl _ _⟩
  case round =>
    obtain ⟨j, hj, rfl, hb⟩ := hrel
    by_cases hlt : j < k
    · have he := hne.out j hlt
      have hj2 : j < 645 := by omega
      go_wp2_with (first | (go_at_call 13; refine (zzname_in j hj2 _).mono ?_; rintro e w1 ⟨rfl, rfl⟩) | fail)
      go_roundw
      case rel => exact ⟨j + 1, by omega, by go_num, hb.alloc hb.size _⟩
      case measure => simp [intOf]; omega
    · have hjk : j = k := by omega
      have he : ((nm j).toList == s.toList) = true := by rw [hjk, hs.out]; exact beq_self_eq_true _
      have hj2 : j < 645 := by omega
      have hk2 : Hid (j = k) := hjk
      clear hjk hlt
      go_wp2_with (first | (go_at_call 13; refine (zzname_in j hj2 _).mono ?_; rintro e w1 ⟨rfl, rfl⟩) | (go_at_call 16; refine (as_in j hj2 _).mono ?_; rintro e w1 ⟨rfl, rfl⟩) | fail)
      go_ret2
      exact ⟨by rw [hk2.out]; rfl, hb.alloc hb.size _⟩

set_option maxHeartbeats 1000000 in
theorem named_out (s : ByteArray) (a : Int) (b : Bool) (hc : ∀ w, Hid (Calls Try.prog 15 #[.string s] w fun e w' => e = .returned (.tuple #[.int .i16 a, .bool b]) ∧ w = w'))
    (hne : Hid (∀ j, j < 645 → ((nm j).toList == s.toList) = false)) (w : World) :
    Calls Try.prog 10 #[.string s] w fun e w' => e = .returned (.tuple #[.int .i16 a, .bool b]) ∧ Below w.heap.size w w' := by
  go_enter Try.func10, Try.ntmps10
  go_wp2_with fail
  go_loopw [4] (fun i wr => ∃ j : Nat, j ≤ 645 ∧ i = .int .i64 j ∧ Below w.heap.size w wr) (fun i _ => 645 - (intOf i).toNat)
  case atStart => exact ⟨0, Nat.zero_le _, rfl, Below.refl _ _⟩
  case round =>
    obtain ⟨j, hj, rfl, hb⟩ := hrel
    by_cases hlt : j < 645
    · have he := hne.out j hlt
      go_wp2_with (first | (go_at_call 13; refine (zzname_in j hlt _).mono ?_; rintro e w1 ⟨rfl, rfl⟩) | fail)
      go_roundw
      case rel => exact ⟨j + 1, by omega, by go_num, hb.alloc hb.size _⟩
      case measure => simp [intOf]; omega
    · have hj2 : 645 ≤ j := by omega
      clear hlt
      go_wp2_with (first | (go_at_call 13; refine (zzname_out j hj2 _).mono ?_; rintro e w1 ⟨rfl, rfl⟩) | (go_at_call 15; refine (hc _).out.mono ?_; rintro e w1 ⟨rfl, rfl⟩) | fail)
      go_ret2
      exact ⟨rfl, hb.alloc hb.size _⟩

end Go.Proofs.Ytkmijcefehlmgaa
