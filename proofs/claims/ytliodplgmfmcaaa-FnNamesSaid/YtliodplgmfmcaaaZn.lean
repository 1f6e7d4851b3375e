/- The name of an operation by its number, the call: below 645 it gives the name and true, from 645 on the empty string and false; it lays one new block, the array of names.
   Conditions: the number is not negative. -/
import Derived.Test.YtliodplgmfmcaaaZz
import Derived.Deep.QuietTactic
import Derived.BigQuiet
namespace Go.Proofs.Ytliodplgmfmcaaa
open Go Go.RowKit

theorem zzOps_shape : ∃ o1 o2 o3, zzOps = [o1, o2, o3] ∧ o1.op = .build 33 zzParts ∧ o1.dst = some 5 ∧ o1.guard = none ∧ o2.op = .alloc 33 ∧ o2.dst = some 4 ∧ o2.guard = none ∧
    o3.op = .store 33 (.tmp 4) (.tmp 5) ∧ o3.dst = none ∧ o3.guard = none :=
  ⟨zzOps.getD 0 default, zzOps.getD 1 default, zzOps.getD 2 default, by kernel_rfl, by kernel_rfl, by kernel_rfl, by kernel_rfl, by kernel_rfl, by kernel_rfl, by kernel_rfl, by kernel_rfl, by kernel_rfl, by kernel_rfl⟩

theorem wpList_value {P : Program} {ops : Array Oper} {Q : Exit → Act → World → Prop} {a : Act} {w w' : World} {rest : List Oper} {o : Oper} {v : Value}
    (hg : o.guard = none) (hr : (execOp a.eval o).run P w = .ok (.value v) w') (h : wpList P ops Q rest (a.put o.dst v) w') : wpList P ops Q (o :: rest) a w := by
  unfold wpList
  rw [if_pos (by simp [Region.wanted, hg])]
  left
  unfold Oper.wp
  rw [hr]
  exact h

theorem wpList_skips {P : Program} {ops : Array Oper} {Q : Exit → Act → World → Prop} {a : Act} {w w' : World} {rest : List Oper} {o : Oper}
    (hg : o.guard = none) (hr : (execOp a.eval o).run P w = .ok .skip w') (h : wpList P ops Q rest (a.put o.dst undef) w') : wpList P ops Q (o :: rest) a w := by
  unfold wpList
  rw [if_pos (by simp [Region.wanted, hg])]
  left
  unfold Oper.wp
  rw [hr]
  exact h

theorem zz_region_any {P : Program} {Q : Exit → Act → World → Prop} (ops : Array Oper) (a : Act) (w : World) (T n : Nat) (R : Array Value) (parts : Array (Nat × Operand)) (z : Value) (o1 o2 o3 : Oper)
    (hb : ∀ (ρ : Operand → Value) (_ : ∀ v, ρ (.const v) = v), (Instr.build T (parts.map fun (i, x) => (i, ρ x))).run P w = .ok (.agg R) w)
    (hz : (zeroValue T).run P w = .ok z w) (hzs : z.cells.size = n) (hR : R.size = n) (hstr : ∀ v ∈ R.toList, ∃ s, v = .string s) (hsz : ∀ w, (sizeOf T).run P w = .ok n w)
    (p1 : o1.op = .build T parts) (d1 : o1.dst = some 5) (g1 : o1.guard = none) (p2 : o2.op = .alloc T) (d2 : o2.dst = some 4) (g2 : o2.guard = none)
    (p3 : o3.op = .store T (.tmp 4) (.tmp 5)) (d3 : o3.dst = none) (g3 : o3.guard = none)
    (h4 : 4 < a.tmps.size) (h5 : 5 < a.tmps.size)
    (h : wpList P ops Q [] ((a.put (some 5) (.agg R)).put (some 4) (.pointer (some ⟨w.heap.size, 0, none⟩))) (w.alloc (.cells R T))) :
    wpList P ops Q [o1, o2, o3] a w := by
  have r1 : (execOp a.eval o1).run P w = .ok (.value (.agg R)) w := by
    unfold execOp
    rw [p1]
    simp only [Sem.run_bind, hb a.eval (fun v => rfl), Result.andThen]
    rfl
  refine wpList_value g1 r1 ?_
  rw [d1]
  have r2 : (execOp (a.put (some 5) (.agg R)).eval o2).run P w = .ok (.value (.pointer (some ⟨w.heap.size, 0, none⟩))) (w.alloc (.cells z.cells T)) := by
    unfold execOp
    rw [p2]
    simp only [Instr.alloc, Sem.run_bind, hz, Result.andThen]
    rfl
  refine wpList_value g2 r2 ?_
  rw [d2]
  have e4 : ((a.put (some 5) (.agg R)).put (some 4) (.pointer (some ⟨w.heap.size, 0, none⟩))).eval (.tmp 4) = .pointer (some ⟨w.heap.size, 0, none⟩) := by
    simp [Act.eval, Act.put, Array.getD, h4]
  have e5 : ((a.put (some 5) (.agg R)).put (some 4) (.pointer (some ⟨w.heap.size, 0, none⟩))).eval (.tmp 5) = .agg R := by
    simp [Act.eval, Act.put, Array.getD, h5]
  have r3 : (execOp ((a.put (some 5) (.agg R)).put (some 4) (.pointer (some ⟨w.heap.size, 0, none⟩))).eval o3).run P (w.alloc (.cells z.cells T)) = .ok .skip (w.alloc (.cells R T)) := by
    unfold execOp
    rw [p3]
    simp only [e4, e5]
    have hst := run_storeRow P w T R.toList 0 z.cells hstr (by rw [hzs, Array.length_toList, hR, Nat.zero_add])
    simp only [List.take_zero, List.nil_append, Array.toArray_toList] at hst
    simp only [Instr.storeAt, Sem.run_bind]
    have hs : (Instr.sureAddr (.pointer (some ⟨w.heap.size, 0, none⟩))).run P (w.alloc (.cells z.cells T)) = .ok ⟨w.heap.size, 0, none⟩ (w.alloc (.cells z.cells T)) := rfl
    rw [hs]
    simp only [Result.andThen, storeVar, Sem.run_bind, hsz]
    have hc : (Value.agg R).cells = R := rfl
    rw [hc, hR]
    simp only [ne_eq, not_true_eq_false, if_false]
    rw [hst]
    rfl
  refine wpList_skips g3 r3 ?_
  rw [d3]
  exact h

theorem zz_region {Q : Exit → Act → World → Prop} (ops : Array Oper) (a : Act) (w : World) (h4 : 4 < a.tmps.size) (h5 : 5 < a.tmps.size)
    (h : wpList Try.prog ops Q [] ((a.put (some 5) (.agg nmRow)).put (some 4) (.pointer (some ⟨w.heap.size, 0, none⟩))) (w.alloc (.cells nmRow 33))) :
    wpList Try.prog ops Q zzOps a w := by
  obtain ⟨o1, o2, o3, ho, p1, d1, g1, p2, d2, g2, p3, d3, g3⟩ := zzOps_shape
  obtain ⟨z, hz, hzs⟩ := zz_zero
  rw [ho]
  exact zz_region_any ops a w 33 645 nmRow zzParts z o1 o2 o3 (fun ρ hρ => zz_build ρ hρ w) (hz w) hzs nmRow_size nmRow_str zz_size p1 d1 g1 p2 d2 g2 p3 d3 g3 h4 h5 h

theorem bel_drewN {B : Nat} {a w : World} (h : Below B a w) (n : Nat) : Below B a (w.drewN n) := ⟨h.os, h.tape, h.output, h.size, h.block⟩

theorem nm_cell (w : World) (k : Nat) (hk : k < 645) : (w.alloc (.cells nmRow 33)).cell? ⟨w.heap.size, k, none⟩ = some (.string (nm k)) := by
  rw [World.cell?_alloc_new]
  exact nmRow_get k hk

set_option maxRecDepth 10000 in
set_option maxHeartbeats 400000 in
theorem zzname_in (k : Nat) (hk : k < 645) (w : World) :
    Calls Try.prog 7 #[.int .i64 k] w fun e w' => e = .returned (.tuple #[.string (nm k), .bool true]) ∧ w.alloc (.cells nmRow 33) = w' := by
  have hc := nmRow_get k hk
  have h0 : (0 : Int) ≤ (k : Int) := by omega
  have h1 : (k : Int) < 645 := by omega
  go_enter Try.func7, Try.ntmps7
  go_wp2_with (refine zz_region _ _ _ (by simp) (by simp) ?_)
  go_ret2
  exact ⟨rfl, rfl⟩

set_option maxHeartbeats 400000 in
theorem zzname_out (k : Nat) (hk : 645 ≤ k) (w : World) :
    Calls Try.prog 7 #[.int .i64 k] w fun e w' => e = .returned (.tuple #[.string ⟨#[]⟩, .bool false]) ∧ w.alloc (.cells nmRow 33) = w' := by
  have h0 : (0 : Int) ≤ (k : Int) := by omega
  have h1 : (645 : Int) ≤ (k : Int) := by omega
  go_enter Try.func7, Try.ntmps7
  go_wp2_with (refine zz_region _ _ _ (by simp) (by simp) ?_)
  go_ret2
  exact ⟨rfl, rfl⟩

end Go.Proofs.Ytliodplgmfmcaaa
