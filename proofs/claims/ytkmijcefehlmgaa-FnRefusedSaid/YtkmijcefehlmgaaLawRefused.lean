/- Registers that are none, and names that are none, are refused: the law FnRefused answers true.
   Conditions: none for the law; each theorem bears its case. -/
import Derived.Test.YtkmijcefehlmgaaRg
namespace Go.Proofs.Ytkmijcefehlmgaa
open Go.ChangeShapes Go.WideShapes Go.ChangeAt Go.RowKit

theorem eq_or (x : Bool) : x = true ∨ x = false := by cases x <;> simp

theorem fnRefused_bad (q : Nat) (d n m : Int) (s : ByteArray) (hq : q < 72) (hs : (s.size : Int) ≤ 100) (hr : ¬ (0 ≤ d ∧ d < 32 ∧ 0 ≤ n ∧ n < 32 ∧ 0 ≤ m ∧ m < 32)) (w : World) :
    Calls Try.prog 3 #[.int .i64 q, .int .i64 d, .int .i64 n, .int .i64 m, .string s] w fun e w' => e = .returned (.bool true) ∧ Below w.heap.size w w' := by
  by_cases hk : ∃ k, k < 645 ∧ nm k = s
  · obtain ⟨k, hk, hks⟩ := hk
    exact fnRefused_among q d n m s hq hs hr k hk hks w
  · have hne : ∀ j, j < 645 → Hid (((nm j).toList == s.toList) = false) := by
      intro j hj
      cases e : ((nm j).toList == s.toList) with
      | false => rfl
      | true => exact absurd ⟨j, hj, bytes_one (by simpa using e)⟩ hk
    rcases eq_or (s.toList == [67, 65, 76, 76]) with e1 | e1
    · exact fnRefused_common1 q d n m s hq hs hr hne e1 w
    rcases eq_or (s.toList == [74, 77, 80]) with e2 | e2
    · exact fnRefused_common2 q d n m s hq hs hr hne e1 e2 w
    rcases eq_or (s.toList == [82, 69, 84]) with e3 | e3
    · exact fnRefused_common3 q d n m s hq hs hr hne e1 e2 e3 w
    rcases eq_or (s.toList == [85, 78, 68, 69, 70]) with e4 | e4
    · exact fnRefused_common4 q d n m s hq hs hr hne e1 e2 e3 e4 w
    rcases eq_or (s.toList == [78, 79, 80]) with e5 | e5
    · exact fnRefused_common5 q d n m s hq hs hr hne e1 e2 e3 e4 e5 w
    rcases eq_or (s.toList == [68, 85, 70, 70, 90, 69, 82, 79]) with e6 | e6
    · exact fnRefused_common6 q d n m s hq hs hr hne e1 e2 e3 e4 e5 e6 w
    rcases eq_or (s.toList == [68, 85, 70, 70, 67, 79, 80, 89]) with e7 | e7
    · exact fnRefused_common7 q d n m s hq hs hr hne e1 e2 e3 e4 e5 e6 e7 w
    exact fnRefused_none q d n m s hq hs hr hne e1 e2 e3 e4 e5 e6 e7 w

theorem fnRefused_any (which d n m : Int) (s : ByteArray) (w : World) :
    Calls Try.prog 3 #[.int .i64 which, .int .i64 d, .int .i64 n, .int .i64 m, .string s] w fun e w' => e = .returned (.bool true) ∧ Below w.heap.size w w' := by
  by_cases h0 : (2147483647 : Int) < (s.size : Int)
  · exact fnRefused_long which d n m s h0 w
  · have h0' : (s.size : Int) ≤ 2147483647 := by omega
    by_cases h : which < 0 ∨ 72 ≤ which
    · exact fnRefused_out which d n m s h0' h w
    · obtain ⟨q, rfl⟩ := Int.eq_ofNat_of_zero_le (show 0 ≤ which by omega)
      have hq : q < 72 := by omega
      by_cases hr : 0 ≤ d ∧ d < 32 ∧ 0 ≤ n ∧ n < 32 ∧ 0 ≤ m ∧ m < 32
      · exact fnRefused_right q d n m s hq h0' hr.1 hr.2.1 hr.2.2.1 hr.2.2.2.1 hr.2.2.2.2.1 hr.2.2.2.2.2 w
      · by_cases hl : (100 : Int) < (s.size : Int)
        · exact fnRefused_longer q d n m s hq h0' hl hr w
        · exact fnRefused_bad q d n m s hq (by omega) hr w

end Go.Proofs.Ytkmijcefehlmgaa
