/- Each operation on three registers that is stated has a name among the names, and no name is there twice: the law FnNames answers true.
   Conditions: none. -/
import Derived.Test.YtliodplgmfmcaaaRows
import Derived.Test.YtliodplgmfmcaaaNs
import Derived.Test.YtliodplgmfmcaaaRw
import Derived.Test.YtliodplgmfmcaaaAm
import Derived.ProofKit
import Derived.OpenShut
import Derived.Deep.QuietTactic
import Derived.BigQuiet
namespace Go.Proofs.Ytliodplgmfmcaaa
open Go.ChangeShapes Go.WideShapes Go.ChangeAt Go.RowKit

set_option maxHeartbeats 1000000 in
theorem fnNames_out (which k : Int) (hk : which < 0 ∨ 72 ≤ which ∨ k < 0) (w : World) :
    Calls Try.prog 3 #[.int .i64 which, .int .i64 k] w fun e w' => e = .returned (.bool true) ∧ Below w.heap.size w w' := by
  go_enter Try.func3, Try.ntmps3
  go_wp2_with fail
  refine (names_any _).mono ?_
  rintro e w1 ⟨v, rfl, hown, hb⟩
  obtain ⟨g, cap, rfl, hcap, hg, hcell⟩ := names_slice w v w1 hown
  clear hcell hown
  go_wp2_with fail
  refine (rows_any _).mono ?_
  rintro e w2 ⟨rfl, rfl⟩
  by_cases h1 : which < 0
  · go_wp2
    go_ret
    exact ⟨rfl, hb.alloc hb.size _⟩
  · by_cases h2 : 72 ≤ which
    · go_wp2
      go_ret
      exact ⟨rfl, hb.alloc hb.size _⟩
    · have h3 : k < 0 := by omega
      go_wp2
      go_ret
      exact ⟨rfl, hb.alloc hb.size _⟩

theorem among_cell {W : World} {g m : Nat} (hc : ∀ j, j < 645 → Hid (W.cell? ⟨g, 0 + j, none⟩ = some (.string (nm j)))) (k j : Nat) (hj : j < 644 - k) :
    Hid ((W.drewN m).cell? ⟨g, k + 1 + j, none⟩ = some (.string (nm (k + 1 + j)))) := by
  have h := (hc (k + 1 + j) (by omega)).out
  rw [Nat.zero_add] at h
  exact h

theorem among_ne (k j : Nat) (hj : j < 644 - k) : Hid (((nm (k + 1 + j)).toList == (nm k).toList) = false) := nm_ne _ _ (by omega) (by omega) (by omega)

set_option maxHeartbeats 1000000 in
theorem fnNames_in (q k : Nat) (hq : q < 72) (hkb : k < 9223372036854775808) (w : World) :
    Calls Try.prog 3 #[.int .i64 q, .int .i64 k] w fun e w' => e = .returned (.bool true) ∧ Below w.heap.size w w' := by
  go_enter Try.func3, Try.ntmps3
  go_wp2_with fail
  refine (names_any _).mono ?_
  rintro e w1 ⟨v, rfl, hown, hb⟩
  obtain ⟨g, cap, rfl, hcap, hg, hcell⟩ := names_slice w v w1 hown
  clear hown
  go_wp2_with fail
  refine (rows_any _).mono ?_
  rintro e w2 ⟨rfl, rfl⟩
  have hc2 : ∀ j, j < 645 → Hid ((w1.alloc (.cells rowCells 29 (0, 0))).cell? ⟨g, 0 + j, none⟩ = some (.string (nm j))) := by
    intro j hj
    show _ = _
    rw [World.cell?_alloc_past _ _ _ (by simpa using hg), Nat.zero_add]
    exact hcell j hj
  clear hcell
  have hrow := row_name q hq
  have h0 : (0 : Int) ≤ (q : Int) := by omega
  have h1 : (q : Int) < 72 := by omega
  have hk0 : (0 : Int) ≤ (k : Int) := by omega
  go_wp2_with fail
  refine (among_yes g 0 645 cap (rowIx q) nm (nm (rowIx q)) _ (by omega) (rowIx_lt q hq) hc2 rfl).mono ?_
  rintro e w3 ⟨rfl, rfl⟩
  go_wp2_with fail
  have hB : Below w.heap.size w (w1.alloc (.cells rowCells 29 (0, 0))) := hb.alloc hb.size _
  generalize hW : w1.alloc (.cells rowCells 29 (0, 0)) = W at hc2 hB ⊢
  clear hW hb hrow
  by_cases hk1 : 645 ≤ k
  · have hk2 : (645 : Int) ≤ (k : Int) := by omega
    clear hk1
    go_quiet (fail)
    go_wp2
    go_ret
    exact ⟨rfl, bel_drewN hB _⟩
  · have hk2 : decide ((645 : Int) ≤ (k : Int)) = false := by simp; omega
    have hk3 : (k : Int) < 645 := by omega
    have hck : W.cell? ⟨g, k, none⟩ = some (.string (nm k)) := by simpa using (hc2 k (by omega)).out
    by_cases hk4 : k + 1 < cap
    · go_quiet ((go_at_call 6; exact Calls.quiet_of_same ((among_no g (k + 1) (644 - k) (cap - (k + 1)) (fun j => nm (k + 1 + j)) (nm k) _ (by omega) (fun j hj => among_cell hc2 k j hj) (fun j hj => among_ne k j hj)).mono (fun e w' h => ⟨h.1, h.2.symm⟩))))
      go_wp2
      go_ret
      exact ⟨rfl, bel_drewN hB _⟩
    · obtain rfl : cap = k + 1 := by omega
      go_quiet ((go_at_call 6; exact Calls.quiet_of_same ((among_none (some ⟨g, 0, none⟩) 0 (nm k) _).mono (fun e w' h => ⟨h.1, h.2.symm⟩))))
      go_wp2
      go_ret
      exact ⟨rfl, bel_drewN hB _⟩

end Go.Proofs.Ytliodplgmfmcaaa
