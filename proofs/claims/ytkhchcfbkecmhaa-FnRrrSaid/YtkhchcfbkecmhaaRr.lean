/- The word of an operation on three registers: for each of the 72 stated operations the package's function gives the fixed bits with the registers in their places, and no errors.
   Conditions: none for the computation; the door's contracts bear the bounds on the registers. -/
import Derived.Test.YtkhchcfbkecmhaaNd
import Derived.Test.YtkhchcfbkecmhaaRw
namespace Go.Proofs.Ytkhchcfbkecmhaa
open Go Go.RowKit

/-- a word with three registers in their places, as the package's text computes it -/
def placed (op rd rn rm : Int) : Int :=
  bits .or .u32 op (bits .or .u32 (bits .or .u32 (IntKind.u32.wrap (IntKind.u32.wrap (bits .and .i16 rm 31) * 2 ^ 16)) (IntKind.u32.wrap (IntKind.u32.wrap (bits .and .i16 rn 31) * 2 ^ 5))) (IntKind.u32.wrap (bits .and .i16 rd 31)))

set_option maxRecDepth 100000 in
theorem rows_ops (n : Nat) (c p : Value) (rd rn rm : Int) :
    (List.range 72).map (fun q => callE Try.prog n 20 13 #[c, p, .int .i16 (10255 + (rowIx q : Int)), .int .i16 rd, .int .i16 rn, .int .i16 rm] []) =
      (List.range 72).map (fun q => some (.int .u32 (placed (rowFix q) rd rn rm), [])) := by kernel_rfl

theorem row_op (q : Nat) (hq : q < 72) (n : Nat) (c p : Value) (rd rn rm : Int) :
    callE Try.prog n 20 13 #[c, p, .int .i16 (10255 + (rowIx q : Int)), .int .i16 rd, .int .i16 rn, .int .i16 rm] [] = some (.int .u32 (placed (rowFix q) rd rn rm), []) := of_map_range (rows_ops n c p rd rn rm) q hq

attribute [irreducible] placed

set_option maxHeartbeats 1000000 in
theorem zzrrr_of (a v rd rn rm : Int) (hop : ∀ (n : Nat) (c p : Value), Hid (callE Try.prog n 20 13 #[c, p, .int .i16 a, .int .i16 rd, .int .i16 rn, .int .i16 rm] [] = some (.int .u32 v, []))) (w : World) :
    Calls Try.prog 9 #[.int .i16 a, .int .i16 rd, .int .i16 rn, .int .i16 rm] w fun e w' => e = .returned (.tuple #[.int .u32 v, .int .i64 0]) ∧ Below w.heap.size w w' := by
  go_enter Try.func9, Try.ntmps9
  go_wp2_with (first | (go_at_call 13; refine (calls_plain _ (hop _ _ _).out).mono ?_; rintro e w1 ⟨rfl, rfl⟩) | fail)
  go_quiet (fail)
  go_wp2
  go_ret2
  exact ⟨rfl, bel_drewN (((Below.refl _ _).alloc (Nat.le_refl _) _).alloc (by simp) _) _⟩

set_option maxHeartbeats 1000000 in
theorem register_yes (b : Nat) (f : Nat → Int) (w : World) (hc : ∀ j, j < 3 → Hid (w.cell? ⟨b, j, none⟩ = some (.int .i64 (f j)))) (hf : ∀ j, j < 3 → Hid (0 ≤ f j ∧ f j ≤ 31)) :
    Calls Try.prog 8 #[.slice (some ⟨b, 0, none⟩) 3 3] w fun e w' => e = .returned (.bool true) ∧ w = w' := by
  go_enter Try.func8, Try.ntmps8
  go_wp2_with fail
  go_loop [7] (fun i => ∃ j : Nat, j ≤ 3 ∧ i = .int .i64 j) (fun i => 3 - (intOf i).toNat)
  case atStart => exact ⟨0, Nat.zero_le _, rfl⟩
  case round =>
    obtain ⟨j, hj, rfl⟩ := hrel
    by_cases hlt : j < 3
    · have hcj := (hc j hlt).out
      obtain ⟨h0, h1⟩ := (hf j hlt).out
      go_wp2
      go_round
      case rel => exact ⟨j + 1, by omega, by go_num⟩
      case measure => simp [intOf]; omega
    · go_wp2
      go_ret
      exact ⟨rfl, rfl⟩

set_option maxHeartbeats 1000000 in
theorem register_no (b : Nat) (f : Nat → Int) (k : Nat) (w : World) (hk : k < 3) (hc : ∀ j, j < 3 → Hid (w.cell? ⟨b, j, none⟩ = some (.int .i64 (f j)))) (hf : Hid (f k < 0 ∨ 31 < f k)) :
    Calls Try.prog 8 #[.slice (some ⟨b, 0, none⟩) 3 3] w fun e w' => e = .returned (.bool false) ∧ w = w' := by
  go_enter Try.func8, Try.ntmps8
  go_wp2_with fail
  go_loop [7] (fun i => ∃ j : Nat, j ≤ k ∧ i = .int .i64 j) (fun i => 3 - (intOf i).toNat)
  case atStart => exact ⟨0, Nat.zero_le _, rfl⟩
  case round =>
    obtain ⟨j, hj, rfl⟩ := hrel
    have hlt : j < 3 := by omega
    have hcj := (hc j hlt).out
    by_cases h0 : f j < 0
    · go_wp2
      go_ret
      exact ⟨rfl, rfl⟩
    · have h0' : 0 ≤ f j := by omega
      by_cases h1 : 31 < f j
      · clear h0
        go_wp2
        go_ret
        exact ⟨rfl, rfl⟩
      · have h1' : f j ≤ 31 := by omega
        have hjk : j < k := by
          rcases Nat.lt_or_eq_of_le hj with h | h
          · exact h
          · exfalso
            have := hf.out
            rw [← h] at this
            omega
        clear h0 h1
        go_wp2
        go_round
        case rel => exact ⟨j + 1, by omega, by go_num⟩
        case measure => simp [intOf]; omega

/-- three numbers as a function of their place -/
def three (x y z : Int) : Nat → Int
  | 0 => x
  | 1 => y
  | _ => z

theorem three_cell (W : World) (T : TypeId) (x y z : Int) : ∀ j, j < 3 → Hid ((W.alloc (.cells #[.int .i64 x, .int .i64 y, .int .i64 z] T)).cell? ⟨W.heap.size, j, none⟩ = some (.int .i64 (three x y z j))) := by
  intro j hj
  show _ = _
  rw [World.cell?_alloc_new]
  match j, hj with
  | 0, _ => rfl
  | 1, _ => rfl
  | 2, _ => rfl

set_option maxHeartbeats 1000000 in
theorem rrr_yes (s : ByteArray) (a v rd rn rm : Int) (h1 : 0 ≤ rd) (h2 : rd < 32) (h3 : 0 ≤ rn) (h4 : rn < 32) (h5 : 0 ≤ rm) (h6 : rm < 32)
    (hn : ∀ w, Hid (Calls Try.prog 7 #[.string s] w fun e w' => e = .returned (.tuple #[.int .i16 a, .bool true]) ∧ Below w.heap.size w w'))
    (hz : ∀ w, Hid (Calls Try.prog 9 #[.int .i16 a, .int .i16 rd, .int .i16 rn, .int .i16 rm] w fun e w' => e = .returned (.tuple #[.int .u32 v, .int .i64 0]) ∧ Below w.heap.size w w')) (w : World) :
    Calls Try.prog 6 #[.string s, .int .i64 rd, .int .i64 rn, .int .i64 rm] w fun e w' => e = .returned (.tuple #[.int .u32 v, .bool true]) ∧ Below w.heap.size w w' := by
  go_enter Try.func6, Try.ntmps6
  go_wp2_with fail
  refine (hn _).out.mono ?_
  rintro e w1 ⟨rfl, hb1⟩
  go_wp2_with fail
  refine (register_yes w1.heap.size (three rd rn rm) _ (three_cell _ _ _ _ _) (fun j hj => by match j, hj with | 0, _ => exact ⟨h1, by show rd ≤ 31; omega⟩ | 1, _ => exact ⟨h3, by show rn ≤ 31; omega⟩ | 2, _ => exact ⟨h5, by show rm ≤ 31; omega⟩)).mono ?_
  rintro e w2 ⟨rfl, rfl⟩
  go_wp2_with fail
  refine (hz _).out.mono ?_
  rintro e w3 ⟨rfl, hb3⟩
  go_wp2
  go_ret2
  exact ⟨rfl, (hb1.alloc hb1.size _).trans (hb3.mono (by have := hb1.size; simp; omega))⟩

set_option maxHeartbeats 1000000 in
theorem rrr_unright (s : ByteArray) (a rd rn rm : Int) (k : Nat) (hk : k < 3) (hf : Hid (three rd rn rm k < 0 ∨ 31 < three rd rn rm k))
    (hn : ∀ w, Hid (Calls Try.prog 7 #[.string s] w fun e w' => e = .returned (.tuple #[.int .i16 a, .bool true]) ∧ Below w.heap.size w w')) (w : World) :
    Calls Try.prog 6 #[.string s, .int .i64 rd, .int .i64 rn, .int .i64 rm] w fun e w' => e = .returned (.tuple #[.int .u32 0, .bool false]) ∧ Below w.heap.size w w' := by
  go_enter Try.func6, Try.ntmps6
  go_wp2_with fail
  refine (hn _).out.mono ?_
  rintro e w1 ⟨rfl, hb1⟩
  go_wp2_with fail
  refine (register_no w1.heap.size (three rd rn rm) k _ hk (three_cell _ _ _ _ _) hf).mono ?_
  rintro e w2 ⟨rfl, rfl⟩
  go_wp2
  go_ret2
  exact ⟨rfl, hb1.alloc hb1.size _⟩

set_option maxHeartbeats 1000000 in
theorem rrr_unnamed (s : ByteArray) (a rd rn rm : Int)
    (hn : ∀ w, Hid (Calls Try.prog 7 #[.string s] w fun e w' => e = .returned (.tuple #[.int .i16 a, .bool false]) ∧ Below w.heap.size w w')) (w : World) :
    Calls Try.prog 6 #[.string s, .int .i64 rd, .int .i64 rn, .int .i64 rm] w fun e w' => e = .returned (.tuple #[.int .u32 0, .bool false]) ∧ Below w.heap.size w w' := by
  go_enter Try.func6, Try.ntmps6
  go_wp2_with fail
  refine (hn _).out.mono ?_
  rintro e w1 ⟨rfl, hb1⟩
  go_wp2
  go_ret2
  exact ⟨rfl, hb1⟩

set_option maxHeartbeats 1000000 in
theorem right_yes (a b c : Int) (h1 : 0 ≤ a) (h2 : a < 32) (h3 : 0 ≤ b) (h4 : b < 32) (h5 : 0 ≤ c) (h6 : c < 32) (w : World) :
    Calls Try.prog 5 #[.int .i64 a, .int .i64 b, .int .i64 c] w fun e w' => e = .returned (.bool true) ∧ w = w' := by
  go_enter Try.func5, Try.ntmps5
  go_wp2
  go_ret
  exact ⟨rfl, rfl⟩

set_option maxHeartbeats 1000000 in
theorem right_no (a b c : Int) (h : ¬ (0 ≤ a ∧ a < 32 ∧ 0 ≤ b ∧ b < 32 ∧ 0 ≤ c ∧ c < 32)) (w : World) :
    Calls Try.prog 5 #[.int .i64 a, .int .i64 b, .int .i64 c] w fun e w' => e = .returned (.bool false) ∧ w = w' := by
  by_cases h1 : 0 ≤ a
  · by_cases h2 : a < 32
    · by_cases h3 : 0 ≤ b
      · by_cases h4 : b < 32
        · by_cases h5 : 0 ≤ c
          · have h6 : decide (c < 32) = false := by simp; omega
            clear h
            go_enter Try.func5, Try.ntmps5
            go_wp2
            go_ret
            exact ⟨rfl, rfl⟩
          · have h6 : c < 0 := by omega
            clear h h5
            go_enter Try.func5, Try.ntmps5
            go_wp2
            go_ret
            exact ⟨rfl, rfl⟩
        · have h6 : 32 ≤ b := by omega
          clear h h4
          go_enter Try.func5, Try.ntmps5
          go_wp2
          go_ret
          exact ⟨rfl, rfl⟩
      · have h6 : b < 0 := by omega
        clear h h3
        go_enter Try.func5, Try.ntmps5
        go_wp2
        go_ret
        exact ⟨rfl, rfl⟩
    · have h6 : 32 ≤ a := by omega
      clear h h2
      go_enter Try.func5, Try.ntmps5
      go_wp2
      go_ret
      exact ⟨rfl, rfl⟩
  · have h6 : a < 0 := by omega
    clear h h1
    go_enter Try.func5, Try.ntmps5
    go_wp2
    go_ret
    exact ⟨rfl, rfl⟩

theorem cell_after {w w' : World} (hb : Below w.heap.size w w') {b o : Nat} {v : Value} (hlt : b < w.heap.size) (h : w.cell? ⟨b, o, none⟩ = some v) : w'.cell? ⟨b, o, none⟩ = some v :=
  (hb.cell (p := ⟨b, o, none⟩) hlt).trans h

theorem named_row (q : Nat) (hq : q < 72) (w : World) : Calls Try.prog 7 #[.string (nm (rowIx q))] w fun e w' => e = .returned (.tuple #[.int .i16 (10255 + (rowIx q : Int)), .bool true]) ∧ Below w.heap.size w w' :=
  named_in (nm (rowIx q)) (rowIx q) (rowIx_lt q hq) rfl (fun j hj => nm_ne j (rowIx q) (by have := rowIx_lt q hq; omega) (rowIx_lt q hq) (by omega)) w

theorem rrr_row (q : Nat) (hq : q < 72) (rd rn rm : Int) (h1 : 0 ≤ rd) (h2 : rd < 32) (h3 : 0 ≤ rn) (h4 : rn < 32) (h5 : 0 ≤ rm) (h6 : rm < 32) (w : World) :
    Calls Try.prog 6 #[.string (nm (rowIx q)), .int .i64 rd, .int .i64 rn, .int .i64 rm] w fun e w' => e = .returned (.tuple #[.int .u32 (placed (rowFix q) rd rn rm), .bool true]) ∧ Below w.heap.size w w' :=
  rrr_yes (nm (rowIx q)) (10255 + (rowIx q : Int)) (placed (rowFix q) rd rn rm) rd rn rm h1 h2 h3 h4 h5 h6 (fun w => named_row q hq w)
    (fun w => zzrrr_of (10255 + (rowIx q : Int)) (placed (rowFix q) rd rn rm) rd rn rm (fun n c p => row_op q hq n c p rd rn rm) w) w

end Go.Proofs.Ytkhchcfbkecmhaa
