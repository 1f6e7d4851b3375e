/- The list of all names: the call gives a new slice of 645 strings, the names in their order. What was there before the call is as it was.
   Conditions: none. -/
import Derived.Test.YtliodplgmfmcaaaZn
namespace Go.Proofs.Ytliodplgmfmcaaa
open Go Go.RowKit

/-- the first names as values -/
def nmList (k : Nat) : List Value := (List.range k).map fun j => Value.string (nm j)

theorem nmList_length (k : Nat) : (nmList k).length = k := by simp [nmList]
theorem nmList_succ (k : Nat) : nmList (k + 1) = nmList k ++ [.string (nm k)] := by simp [nmList, List.range_succ]
theorem nmList_get (k j : Nat) (h : j < k) : (nmList k)[j]? = some (.string (nm j)) := by simp [nmList, h]

noncomputable def strInfo : TypeInfo := (Try.prog.info? 9).getD default
theorem strInfo_eq : Try.prog.info? 9 = some strInfo := by kernel_rfl
theorem strInfo_zero : strInfo.zero = some (.string ByteArray.empty) := by kernel_rfl
theorem strInfo_size : strInfo.size = 1 := by kernel_rfl
theorem strInfo_bytes : strInfo.bytes = 16 := by kernel_rfl

attribute [irreducible] strInfo nmList

theorem cell_new2 (w : World) (A : Obj) (v : Value) : ((w.alloc A).alloc (.cells #[v] 9)).cell? ((⟨w.heap.size + 1, 0, none⟩ : Addr).add 0) = some v := by
  simp [Addr.add]

theorem names_below {w wr w1 : World} {A B : Obj} {v : Value} {j : Nat} {l : List Value} (hb : Below w.heap.size w wr) (hown : wr.ownsRow w.heap.size 9 1 v j l)
    (hg : ((wr.alloc A).alloc B).grownBy w1 v.ownBlock) : Below w.heap.size w w1 := by
  have hs := hb.size
  refine Below.grown ((hb.alloc hs A).alloc (by simp; omega) B) hg (by simp; omega) ?_
  intro k hk
  exact (hown.lt k hk).1

set_option maxHeartbeats 1000000 in
theorem names_any (w : World) :
    Calls Try.prog 4 #[] w fun e w' => ∃ v, e = .returned v ∧ w'.ownsRow w.heap.size 9 1 v 645 (nmList 645) ∧ Below w.heap.size w w' := by
  go_enter Try.func4, Try.ntmps4
  go_wp2_with fail
  go_loopw [1, 2] (fun v i wr => ∃ j : Nat, j ≤ 645 ∧ i = .int .i64 j ∧ wr.ownsRow w.heap.size 9 1 v j (nmList j) ∧ Below w.heap.size w wr) (fun _ i _ => 645 - (intOf i).toNat)
  case atStart => exact ⟨0, Nat.zero_le _, rfl, by simpa [nmList] using World.ownsRow_nil _ _ _ _, Below.refl _ _⟩
  case round =>
    obtain ⟨j, hj, rfl, hown, hb⟩ := hrel
    by_cases hlt : j < 645
    · go_wp2_with (first
        | (go_at_call 7; refine (zzname_in j hlt _).mono ?_; rintro e w1 ⟨rfl, rfl⟩)
        | (at_builtin; refine wpList_append_own _ rfl _ _ 22 rfl w.heap.size 9 strInfo (.string ByteArray.empty) 1 16 Try.underlying22 strInfo_eq strInfo_zero strInfo_size strInfo_bytes rfl (by decide) _ _ _ rfl ((hown.alloc _).alloc _) ⟨wr.heap.size + 1, 0, none⟩ 1 1 [.string (nm j)] rfl rfl ?c1 ?c2 ?c3 ?c4 ?c5 ?_)
        | fail)
      case c1 =>
        intro i u hi
        match i, hi with
        | 0, hi => simp at hi; subst hi; exact cell_new2 _ _ _
      case c2 => intro u hu; simp at hu; subst hu; rfl
      case c3 => unfold maxLen; omega
      case c4 => omega
      case c5 => have := hb.size; simp; omega
      · intro v' w1 hown' hgrow _
        have hb2 := names_below hb hown hgrow
        have hsu : Hid (nmList (j + 1) = nmList j ++ [.string (nm j)]) := nmList_succ j
        go_wp2
        go_roundw
        case rel => exact ⟨j + 1, by omega, by go_num, by rw [hsu.out]; exact hown', hb2⟩
        case measure => simp [intOf]; omega
    · have hj2 : 645 ≤ j := by omega
      have he : Hid (j = 645) := by show j = 645; omega
      clear hlt
      go_wp2_with (first | (go_at_call 7; refine (zzname_out j hj2 _).mono ?_; rintro e w1 ⟨rfl, rfl⟩) | fail)
      go_ret
      have e1 := he.out
      subst e1
      exact ⟨_, rfl, hown.alloc _, hb.alloc hb.size _⟩

/-- the slice of all names: where it lies -/
theorem names_slice (w : World) (v : Value) (w' : World) (h : w'.ownsRow w.heap.size 9 1 v 645 (nmList 645)) :
    ∃ g cap, v = .slice (some ⟨g, 0, none⟩) 645 cap ∧ 645 ≤ cap ∧ g < w'.heap.size ∧ ∀ j, j < 645 → w'.cell? ⟨g, j, none⟩ = some (.string (nm j)) := by
  have h0 := h
  obtain ⟨_, h2⟩ := h
  rcases h2 with ⟨_, h3⟩ | ⟨g, cap, cur, rfl, hg, hh, hn, hm, hs, ht⟩
  · omega
  · refine ⟨g, cap, rfl, hn, ?_, fun j hj => ?_⟩
    · have := h0.lt g rfl
      exact this.2
    · rw [h0.cellAt j (by omega)]
      exact nmList_get 645 j hj

end Go.Proofs.Ytliodplgmfmcaaa
