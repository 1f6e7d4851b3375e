/- Whether a name is among names: the call tells it, and leaves the world as it is.
   Conditions: the slice's cells are strings. -/
import Derived.Test.YtkmijcefehlmgaaExec
import Derived.KernelRfl
import Derived.WalkSpells
import Derived.WalkLawsBesides
namespace Go.Proofs.Ytkmijcefehlmgaa
open Go Go.RowKit

set_option maxHeartbeats 400000 in
theorem among_none (a : Option Addr) (cap : Nat) (s : ByteArray) (w : World) :
    Calls Try.prog 7 #[.slice a 0 cap, .string s] w fun e w' => e = .returned (.bool false) ∧ w = w' := by
  go_enter Try.func7, Try.ntmps7
  go_wp2
  refine wp_loop_rounds 1 ?_
  rw [rounds_succ]
  go_wp2
  go_ret
  exact ⟨rfl, rfl⟩

set_option maxHeartbeats 1000000 in
theorem among_no (b off n cap : Nat) (f : Nat → ByteArray) (s : ByteArray) (w : World) (hn : n ≤ 100000)
    (hc : ∀ j, j < n → Hid (w.cell? ⟨b, off + j, none⟩ = some (.string (f j)))) (hne : ∀ j, j < n → Hid (((f j).toList == s.toList) = false)) :
    Calls Try.prog 7 #[.slice (some ⟨b, off, none⟩) n cap, .string s] w fun e w' => e = .returned (.bool false) ∧ w = w' := by
  go_enter Try.func7, Try.ntmps7
  go_wp2_with fail
  go_loop [5] (fun i => ∃ j : Nat, j ≤ n ∧ i = .int .i64 j) (fun i => n - (intOf i).toNat)
  case atStart => exact ⟨0, Nat.zero_le _, rfl⟩
  case round =>
    obtain ⟨j, hj, rfl⟩ := hrel
    by_cases hlt : j < n
    · have he := (hne j hlt).out
      have hcj := (hc j hlt).out
      go_wp2
      go_round
      case rel => exact ⟨j + 1, by omega, by go_num⟩
      case measure => simp [intOf]; omega
    · go_wp2
      go_ret
      exact ⟨rfl, rfl⟩

set_option maxHeartbeats 1000000 in
theorem among_yes (b off n cap k : Nat) (f : Nat → ByteArray) (s : ByteArray) (w : World) (hn : n ≤ 100000) (hk : k < n)
    (hc : ∀ j, j < n → Hid (w.cell? ⟨b, off + j, none⟩ = some (.string (f j)))) (hs : Hid (f k = s)) :
    Calls Try.prog 7 #[.slice (some ⟨b, off, none⟩) n cap, .string s] w fun e w' => e = .returned (.bool true) ∧ w = w' := by
  go_enter Try.func7, Try.ntmps7
  go_wp2_with fail
  go_loop [5] (fun i => ∃ j : Nat, j ≤ k ∧ i = .int .i64 j) (fun i => n - (intOf i).toNat)
  case atStart => exact ⟨0, Nat.zero_le _, rfl⟩
  case round =>
    obtain ⟨j, hj, rfl⟩ := hrel
    have hlt : j < n := by omega
    have hcj := (hc j hlt).out
    by_cases he : ((f j).toList == s.toList) = true
    · go_wp2
      go_ret
      exact ⟨rfl, rfl⟩
    · have he2 : ((f j).toList == s.toList) = false := by simpa using he
      have hjk : j < k := by
        rcases Nat.lt_or_eq_of_le hj with h | h
        · exact h
        · exfalso
          rw [h, hs.out] at he
          exact he (beq_self_eq_true _)
      clear he
      go_wp2
      go_round
      case rel => exact ⟨j + 1, by omega, by go_num⟩
      case measure => simp [intOf]; omega

end Go.Proofs.Ytkmijcefehlmgaa
