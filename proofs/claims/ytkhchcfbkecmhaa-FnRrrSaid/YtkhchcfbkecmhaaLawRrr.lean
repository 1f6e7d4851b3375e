/- An operation on three registers has the word of its row of the listings, with the registers in their places: the law FnRrr answers true.
   Conditions: none. -/
import Derived.Test.YtkhchcfbkecmhaaRr
import Derived.ProofKit
import Derived.OpenShut
namespace Go.Proofs.Ytkhchcfbkecmhaa
open Go.ChangeShapes Go.WideShapes Go.ChangeAt Go.RowKit

/-! ### The bits -/

theorem or_u32 (x y : Int) : bits .or .u32 x y = ((BitVec.ofInt 32 x ||| BitVec.ofInt 32 y).toNat : Int) := by
  have h := (BitVec.ofInt 32 x ||| BitVec.ofInt 32 y).isLt
  show IntKind.u32.wrap (((BitVec.ofInt 32 x ||| BitVec.ofInt 32 y).toNat : Nat) : Int) = _
  rw [IntKind.wrap_u32]
  omega

theorem or_assoc_u32 (x y z : Int) : bits .or .u32 x (bits .or .u32 y z) = bits .or .u32 (bits .or .u32 x y) z := by
  rw [or_u32, or_u32, or_u32, or_u32]
  simp only [BitVec.ofInt_natCast, BitVec.ofNat_toNat, BitVec.setWidth_eq, BitVec.or_assoc]

theorem and31 : (List.range 32).all (fun r => decide (bits .and .i16 (r : Int) 31 = r)) = true := by kernel_rfl

theorem and31_of (r : Nat) (h : r < 32) : bits .and .i16 (r : Int) 31 = r := by
  have := and31
  rw [List.all_eq_true] at this
  simpa using this r (by simpa using h)

theorem placed_eq (F d n m : Nat) (hd : d < 32) (hn : n < 32) (hm : m < 32) :
    placed F d n m = bits .or .u32 (bits .or .u32 (bits .or .u32 F ((m : Int) * 65536)) ((n : Int) * 32)) d := by
  unfold placed
  rw [and31_of d hd, and31_of n hn, and31_of m hm]
  have e1 : IntKind.u32.wrap (IntKind.u32.wrap (m : Int) * 2 ^ 16) = (m : Int) * 65536 := by
    rw [IntKind.wrap_u32, IntKind.wrap_u32]
    omega
  have e2 : IntKind.u32.wrap (IntKind.u32.wrap (n : Int) * 2 ^ 5) = (n : Int) * 32 := by
    rw [IntKind.wrap_u32, IntKind.wrap_u32]
    omega
  have e3 : IntKind.u32.wrap (d : Int) = (d : Int) := by
    rw [IntKind.wrap_u32]
    omega
  rw [e1, e2, e3, or_assoc_u32, or_assoc_u32]

set_option maxHeartbeats 1000000 in
theorem fnRrr_out (which d n m : Int) (hk : which < 0 ∨ 72 ≤ which) (w : World) :
    Calls Try.prog 3 #[.int .i64 which, .int .i64 d, .int .i64 n, .int .i64 m] w fun e w' => e = .returned (.bool true) ∧ Below w.heap.size w w' := by
  go_enter Try.func3, Try.ntmps3
  go_wp2_with fail
  refine (rows_any _).mono ?_
  rintro e w2 ⟨rfl, rfl⟩
  by_cases h1 : which < 0
  · go_wp2
    go_ret
    exact ⟨rfl, (Below.refl _ _).alloc (Nat.le_refl _) _⟩
  · have h2 : 72 ≤ which := by omega
    go_wp2
    go_ret
    exact ⟨rfl, (Below.refl _ _).alloc (Nat.le_refl _) _⟩

set_option maxHeartbeats 1000000 in
theorem fnRrr_unright (q : Nat) (d n m : Int) (hq : q < 72) (hr : Hid (¬ (0 ≤ d ∧ d < 32 ∧ 0 ≤ n ∧ n < 32 ∧ 0 ≤ m ∧ m < 32))) (w : World) :
    Calls Try.prog 3 #[.int .i64 q, .int .i64 d, .int .i64 n, .int .i64 m] w fun e w' => e = .returned (.bool true) ∧ Below w.heap.size w w' := by
  have h0 : (0 : Int) ≤ (q : Int) := by omega
  have h1 : (q : Int) < 72 := by omega
  go_enter Try.func3, Try.ntmps3
  go_wp2_with fail
  refine (rows_any _).mono ?_
  rintro e w2 ⟨rfl, rfl⟩
  go_wp2_with fail
  refine (right_no d n m hr.out _).mono ?_
  rintro e w3 ⟨rfl, rfl⟩
  go_wp2
  go_ret
  exact ⟨rfl, (Below.refl _ _).alloc (Nat.le_refl _) _⟩

set_option maxHeartbeats 1000000 in
theorem fnRrr_in (q d n m : Nat) (hq : q < 72) (hd : d < 32) (hn : n < 32) (hm : m < 32) (w : World) :
    Calls Try.prog 3 #[.int .i64 q, .int .i64 d, .int .i64 n, .int .i64 m] w fun e w' => e = .returned (.bool true) ∧ Below w.heap.size w w' := by
  have h0 : (0 : Int) ≤ (q : Int) := by omega
  have h1 : (q : Int) < 72 := by omega
  have d0 : (0 : Int) ≤ (d : Int) := by omega
  have d1 : (d : Int) < 32 := by omega
  have n0 : (0 : Int) ≤ (n : Int) := by omega
  have n1 : (n : Int) < 32 := by omega
  have m0 : (0 : Int) ≤ (m : Int) := by omega
  have m1 : (m : Int) < 32 := by omega
  have c1 := row_name q hq
  have c2 := row_fix q hq
  go_enter Try.func3, Try.ntmps3
  go_wp2_with fail
  refine (rows_any _).mono ?_
  rintro e w2 ⟨rfl, rfl⟩
  go_wp2_with fail
  refine (right_yes d n m d0 d1 n0 n1 m0 m1 _).mono ?_
  rintro e w3 ⟨rfl, rfl⟩
  go_wp2_with fail
  refine (rrr_row q hq d n m d0 d1 n0 n1 m0 m1 _).mono ?_
  rintro e w3 ⟨rfl, hb3⟩
  have hcell : w3.cell? ⟨w.heap.size, q * 4 + 1, none⟩ = some (.int .u32 (rowFix q)) := cell_after hb3 (by simp) (by simpa using c2)
  have hB : Below w.heap.size w w3 := ((Below.refl w.heap.size w).alloc (Nat.le_refl _) _).trans (hb3.mono (by simp))
  clear hb3 c1 c2
  go_wp2
  go_ret
  exact ⟨by rw [placed_eq (rowFix q) d n m hd hn hm]; simp, hB⟩

theorem fnRrr_any (which d n m : Int) (w : World) :
    Calls Try.prog 3 #[.int .i64 which, .int .i64 d, .int .i64 n, .int .i64 m] w fun e w' => e = .returned (.bool true) ∧ Below w.heap.size w w' := by
  by_cases h : which < 0 ∨ 72 ≤ which
  · exact fnRrr_out which d n m h w
  · obtain ⟨q, rfl⟩ := Int.eq_ofNat_of_zero_le (show 0 ≤ which by omega)
    by_cases hr : 0 ≤ d ∧ d < 32 ∧ 0 ≤ n ∧ n < 32 ∧ 0 ≤ m ∧ m < 32
    · obtain ⟨d, rfl⟩ := Int.eq_ofNat_of_zero_le (show 0 ≤ d by omega)
      obtain ⟨n, rfl⟩ := Int.eq_ofNat_of_zero_le (show 0 ≤ n by omega)
      obtain ⟨m, rfl⟩ := Int.eq_ofNat_of_zero_le (show 0 ≤ m by omega)
      exact fnRrr_in q d n m (by omega) (by omega) (by omega) (by omega) w
    · exact fnRrr_unright q d n m (by omega) hr w

end Go.Proofs.Ytkhchcfbkecmhaa
