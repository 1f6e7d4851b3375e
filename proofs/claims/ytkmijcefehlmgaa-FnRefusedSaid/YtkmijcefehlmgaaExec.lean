/- The evaluator of code that reads no memory, proved once: where it ends with a value, the call returns that value, and the world has grown by what the call has made.
   Conditions: none. -/
import Derived.Test.YtkmijcefehlmgaaProg
import Derived.WalkKit
namespace Go.Proofs.Ytkmijcefehlmgaa
open Go

/-- the world behind some new blocks, the newest first -/
def laid (w : World) : List Obj → World
  | [] => w
  | o :: os => (laid w os).alloc o

theorem laid_size (w : World) (os : List Obj) : (laid w os).heap.size = w.heap.size + os.length := by
  induction os with
  | nil => rfl
  | cons o os ih =>
    show ((laid w os).heap.push o).size = _
    rw [Array.size_push, ih]
    rfl

/-- what a piece of semantics gives where it only computes and lays new blocks; 'n' is how many blocks lie there before -/
def semE (P : Program) (n : Nat) {α : Type} : Sem α → List Obj → Option (α × List Obj)
  | .pure a, os => some (a, os)
  | .program k, os => semE P n (k P) os
  | .mark _ k, os => semE P n k os
  | .choose q k, os => if q.forced then semE P n (k 0) os else none
  | .new o k, os => semE P n (k (n + os.length)) (o :: os)
  | _, _ => none

theorem semE_run {P : Program} {n : Nat} {α : Type} (s : Sem α) : ∀ (os os' : List Obj) (a : α), semE P n s os = some (a, os') →
    ∀ w : World, w.heap.size = n → s.run P (laid w os) = .ok a (laid w os') := by
  induction s with
  | pure a =>
    intro os os' b h w hw
    simp only [semE, Option.some.injEq, Prod.mk.injEq] at h
    obtain ⟨rfl, rfl⟩ := h
    rfl
  | program k ih =>
    intro os os' b h w hw
    simp only [semE] at h
    simp only [Sem.run]
    exact ih P os os' b h w hw
  | mark m k ih =>
    intro os os' b h w hw
    simp only [semE] at h
    simp only [Sem.run]
    exact ih os os' b h w hw
  | choose q k ih =>
    intro os os' b h w hw
    simp only [semE] at h
    by_cases hq : q.forced = true
    · rw [if_pos hq] at h
      simp only [Sem.run]
      rw [if_pos hq]
      exact ih 0 os os' b h w hw
    · rw [if_neg hq] at h
      cases h
  | new o k ih =>
    intro os os' b h w hw
    simp only [semE] at h
    simp only [Sem.run]
    have hs : (laid w os).heap.size = n + os.length := by rw [laid_size, hw]
    rw [hs]
    exact ih (n + os.length) (o :: os) os' b h w hw
  | load m a k ih => intro os os' b h; simp [semE] at h
  | store m a v k ih => intro os os' b h; simp [semE] at h
  | shape r k ih => intro os os' b h; simp [semE] at h
  | freeze a n k ih => intro os os' b h; simp [semE] at h
  | frozen a k ih => intro os os' b h; simp [semE] at h
  | getObj r k ih => intro os os' b h; simp [semE] at h
  | setObj r o k ih => intro os os' b h; simp [semE] at h
  | sys c k ih => intro os os' b h; simp [semE] at h
  | halt x => intro os os' b h; simp [semE] at h

/-- the slots that are not 'undef', the newest entry first -/
abbrev Env := List (Nat × Value)

def look : Env → Nat → Value
  | [], _ => undef
  | (i, v) :: r, t => if i == t then v else look r t

def evalE (e : Env) : Operand → Value
  | .tmp t => look e t
  | .const v => v
  | .global g => .pointer (some ⟨g, 0, none⟩)
  | .func f => .func (.func f) #[] #[]

def putE (N : Nat) (e : Env) (dst : Option Tmp) (v : Value) : Env :=
  match dst with
  | some d => if d < N then (d, v) :: e else e
  | none => e

def yieldE (ops : Array Oper) (e : Env) (j : Nat) : Option Bool :=
  match (ops[j]?).bind (·.dst) with
  | some d => match look e d with
    | .bool b => some b
    | _ => none
  | none => none

/-- an act and the slots that the evaluator holds -/
structure Rep (N : Nat) (e : Env) (a : Act) : Prop where
  defers : a.defers = []
  size : a.tmps.size = N
  slots : ∀ t, a.tmps.getD t undef = look e t

theorem Rep.eval {N : Nat} {e : Env} {a : Act} (h : Rep N e a) : a.eval = evalE e := by
  funext x
  cases x with
  | tmp t => exact h.slots t
  | const v => rfl
  | global g => rfl
  | func f => rfl

theorem Rep.put {N : Nat} {e : Env} {a : Act} (h : Rep N e a) (dst : Option Tmp) (v : Value) : Rep N (putE N e dst v) (a.put dst v) := by
  cases dst with
  | none => exact h
  | some d =>
    by_cases hd : d < N
    · simp only [putE, if_pos hd, Act.put]
      refine ⟨h.defers, by simpa using h.size, fun t => ?_⟩
      have hs := h.slots t
      have hz := h.size
      by_cases e1 : d = t
      · subst e1
        simp [look, Array.getD, Array.size_setIfInBounds, hz, hd]
      · have e2 : (d == t) = false := by simpa using e1
        simp only [look, e2]
        rw [← hs]
        simp only [Array.getD, Array.size_setIfInBounds]
        by_cases ht : t < a.tmps.size
        · simp [ht, e1]
        · simp [ht]
    · simp only [putE, if_neg hd, Act.put]
      refine ⟨h.defers, by simpa using h.size, fun t => ?_⟩
      rw [← h.slots t]
      have hz := h.size
      simp [Array.setIfInBounds, hz, hd]

theorem Rep.yield {N : Nat} {e : Env} {a : Act} (h : Rep N e a) (ops : Array Oper) : yielded ops a.tmps = yieldE ops e := by
  funext j
  unfold yielded yieldE
  cases hd : (ops[j]?).bind (·.dst) with
  | none => rfl
  | some d =>
    simp only [Option.bind_some]
    rw [← h.slots d]
    by_cases ht : d < a.tmps.size
    · simp [Array.getD, ht]
      cases a.tmps[d] <;> rfl
    · simp [Array.getD, ht, undef]

structure St where
  env : Env
  objs : List Obj

section
variable (P : Program) (n : Nat) (F : FuncId → Array Value → List Obj → Option (Value × List Obj))

def opsE (N : Nat) (ops : Array Oper) : List Nat → St → Option St
  | [], s => some s
  | i :: rest, s =>
    match ops[i]? with
    | none => opsE N ops rest s
    | some o =>
      if Region.wanted o (yieldE ops s.env) then
        match semE P n (execOp (evalE s.env) o) s.objs with
        | some (.value v, os) => opsE N ops rest ⟨putE N s.env o.dst v, os⟩
        | some (.skip, os) => opsE N ops rest ⟨putE N s.env o.dst undef, os⟩
        | some (.enter f args, os) =>
          match F f args os with
          | some (v, os') => opsE N ops rest ⟨putE N s.env o.dst v, os'⟩
          | none => none
        | _ => none
      else opsE N ops rest ⟨putE N s.env o.dst undef, s.objs⟩

/-- how a piece of code is left: by its end, by a return, to the end of a block -/
inductive Way where
  | normal
  | ret
  | exit (id : Nat)

def Way.out : Way → Exit
  | .normal => .normal
  | .ret => .ret
  | .exit id => .exit id

def codeE (N : Nat) : Code → St → Option (Way × St)
  | .skip, s => some (.normal, s)
  | .label _, s => some (.normal, s)
  | .ret, s => some (.ret, s)
  | .exit id, s => some (.exit id, s)
  | .region _ ops false, s =>
    match opsE P n F N ops (List.range ops.size) s with
    | some s' => some (.normal, s')
    | none => none
  | .seq x y, s =>
    match codeE N x s with
    | some (.normal, s') => codeE N y s'
    | r => r
  | .cond c x y, s =>
    match evalE s.env c with
    | .bool true => codeE N x s
    | .bool false => codeE N y s
    | _ => none
  | .block id x, s =>
    match codeE N x s with
    | some (.exit id', s') => if id' = id then some (.normal, s') else some (.exit id', s')
    | r => r
  | _, _ => none

end

def Sound (P : Program) (n : Nat) (F : FuncId → Array Value → List Obj → Option (Value × List Obj)) : Prop :=
  ∀ f args os v os', F f args os = some (v, os') → ∀ w : World, w.heap.size = n →
    Calls P f args (laid w os) fun e w' => e = .returned v ∧ w' = laid w os'

section
variable {P : Program} {n : Nat} {F : FuncId → Array Value → List Obj → Option (Value × List Obj)}

theorem opsE_sound (hF : Sound P n F) (N : Nat) (ops : Array Oper) (Q : Exit → Act → World → Prop) (w : World) (hw : w.heap.size = n) (s' : St)
    (hQ : ∀ a', Rep N s'.env a' → Q .normal a' (laid w s'.objs)) :
    ∀ (l : List Nat) (s : St) (a : Act), opsE P n F N ops l s = some s' → Rep N s.env a → wpOps P ops Q l a (laid w s.objs) := by
  intro l
  induction l with
  | nil =>
    intro s a h hr
    simp only [opsE, Option.some.injEq] at h
    subst h
    exact hQ a hr
  | cons i rest ih =>
    intro s a h hr
    simp only [opsE] at h
    simp only [wpOps]
    cases ho : ops[i]? with
    | none =>
      rw [ho] at h
      exact ih s a h hr
    | some o =>
      rw [ho] at h
      simp only [hr.yield ops]
      by_cases hwt : Region.wanted o (yieldE ops s.env) = true
      · simp only [hwt, if_true] at h ⊢
        left
        unfold Oper.wp
        rw [hr.eval]
        cases hs : semE P n (execOp (evalE s.env) o) s.objs with
        | none => rw [hs] at h; cases h
        | some r =>
          obtain ⟨x, os⟩ := r
          rw [hs] at h
          rw [semE_run _ _ _ _ hs w hw]
          cases x <;> first
            | (cases h; done)
            | (exact ih _ _ h (hr.put _ _))
            | skip
          rename_i f args
          simp only at h
          cases hf : F f args os with
          | none => rw [hf] at h; cases h
          | some r =>
            obtain ⟨v, os'⟩ := r
            rw [hf] at h
            rw [Oper.upon_enter]
            refine (hF f args os v os' hf w hw).mono ?_
            rintro e w' ⟨rfl, rfl⟩
            exact ih _ _ h (hr.put _ _)
      · simp only [hwt] at h ⊢
        exact ih ⟨putE N s.env o.dst undef, s.objs⟩ _ h (hr.put _ _)

theorem codeE_sound (hF : Sound P n F) (N : Nat) (w : World) (hw : w.heap.size = n) (c : Code) :
    ∀ (s : St) (x : Way) (s' : St) (a : Act), codeE P n F N c s = some (x, s') → Rep N s.env a →
      c.wp P (fun e a' w' => e = x.out ∧ Rep N s'.env a' ∧ w' = laid w s'.objs) a (laid w s.objs) := by
  induction c with
  | skip =>
    intro s x s' a h hr
    simp only [codeE, Option.some.injEq, Prod.mk.injEq] at h
    obtain ⟨rfl, rfl⟩ := h
    exact wp_skip ⟨rfl, hr, rfl⟩
  | label l =>
    intro s x s' a h hr
    simp only [codeE, Option.some.injEq, Prod.mk.injEq] at h
    obtain ⟨rfl, rfl⟩ := h
    exact wp_label ⟨rfl, hr, rfl⟩
  | ret =>
    intro s x s' a h hr
    simp only [codeE, Option.some.injEq, Prod.mk.injEq] at h
    obtain ⟨rfl, rfl⟩ := h
    exact wp_ret ⟨rfl, hr, rfl⟩
  | exit id =>
    intro s x s' a h hr
    simp only [codeE, Option.some.injEq, Prod.mk.injEq] at h
    obtain ⟨rfl, rfl⟩ := h
    exact wp_exit ⟨rfl, hr, rfl⟩
  | region id ops draw =>
    intro s x s' a h hr
    cases draw with
    | true => simp [codeE] at h
    | false =>
      simp only [codeE] at h
      cases ho : opsE P n F N ops (List.range ops.size) s with
      | none => rw [ho] at h; cases h
      | some s1 =>
        rw [ho] at h
        simp only [Option.some.injEq, Prod.mk.injEq] at h
        obtain ⟨rfl, rfl⟩ := h
        exact wp_region (opsE_sound hF N ops _ w hw s1 (fun a' ha' => ⟨rfl, ha', rfl⟩) _ s a ho hr)
  | seq c d ihc ihd =>
    intro s x s' a h hr
    simp only [codeE] at h
    cases hc : codeE P n F N c s with
    | none => rw [hc] at h; cases h
    | some r =>
      obtain ⟨y, s1⟩ := r
      rw [hc] at h
      refine wp_seq (wp_mono (ihc s y s1 a hc hr) ?_)
      rintro e a1 w1 ⟨rfl, hr1, rfl⟩
      cases y with
      | normal => exact ihd s1 x s' a1 h hr1
      | ret =>
        simp only [Option.some.injEq, Prod.mk.injEq] at h
        obtain ⟨rfl, rfl⟩ := h
        exact ⟨rfl, hr1, rfl⟩
      | exit id =>
        simp only [Option.some.injEq, Prod.mk.injEq] at h
        obtain ⟨rfl, rfl⟩ := h
        exact ⟨rfl, hr1, rfl⟩
  | cond t c d ihc ihd =>
    intro s x s' a h hr
    simp only [codeE] at h
    have he : a.eval t = evalE s.env t := by rw [hr.eval]
    cases ht : evalE s.env t with
    | bool b =>
      rw [ht] at h he
      cases b with
      | true => exact wp_cond_true he (ihc s x s' a h hr)
      | false => exact wp_cond_false he (ihd s x s' a h hr)
    | _ => rw [ht] at h; simp at h
  | block id c ih =>
    intro s x s' a h hr
    simp only [codeE] at h
    cases hc : codeE P n F N c s with
    | none => rw [hc] at h; cases h
    | some r =>
      obtain ⟨y, s1⟩ := r
      rw [hc] at h
      refine wp_block (wp_mono (ih s y s1 a hc hr) ?_)
      rintro e a1 w1 ⟨rfl, hr1, rfl⟩
      cases y with
      | normal =>
        simp only [Option.some.injEq, Prod.mk.injEq] at h
        obtain ⟨rfl, rfl⟩ := h
        exact ⟨rfl, hr1, rfl⟩
      | ret =>
        simp only [Option.some.injEq, Prod.mk.injEq] at h
        obtain ⟨rfl, rfl⟩ := h
        exact ⟨rfl, hr1, rfl⟩
      | exit id' =>
        by_cases hid : id' = id
        · simp only [hid, if_true, Option.some.injEq, Prod.mk.injEq] at h
          obtain ⟨rfl, rfl⟩ := h
          simp only [Way.out, Exit.inBlock, hid, if_true]
          exact ⟨trivial, hr1, trivial⟩
        · simp only [hid, if_false, Option.some.injEq, Prod.mk.injEq] at h
          obtain ⟨rfl, rfl⟩ := h
          simp only [Way.out, Exit.inBlock, hid, if_false]
          exact ⟨trivial, hr1, trivial⟩
  | loop c ih => intro s x s' a h; simp [codeE] at h
  | rangeFunc f params c1 c2 ih1 ih2 => intro s x s' a h; simp [codeE] at h
  | scope c ih => intro s x s' a h; simp [codeE] at h
  | goto l => intro s x s' a h; simp [codeE] at h
  | refuse why => intro s x s' a h; simp [codeE] at h

end

/-- the slots of a call as it begins -/
def startE : Nat → List Value → Env
  | _, [] => []
  | i, v :: r => (i, v) :: startE (i + 1) r

theorem look_startE (l : List Value) : ∀ (i t : Nat), look (startE i l) t = if t < i then undef else l.getD (t - i) undef := by
  induction l with
  | nil => intro i t; simp [startE, look]
  | cons v r ih =>
    intro i t
    simp only [startE, look]
    by_cases h : i = t
    · subst h
      simp
    · have h1 : (i == t) = false := by simpa using h
      rw [h1, ih]
      by_cases h2 : t < i
      · simp [h2, show t < i + 1 from by omega]
      · rw [if_neg h2, if_neg (show ¬ t < i + 1 by omega)]
        have h3 : t - i = (t - (i + 1)) + 1 := by omega
        rw [h3]
        simp

theorem rep_start (args : Array Value) (m : Nat) :
    Rep (args.size + (m - args.size)) (startE 0 args.toList) { tmps := args ++ Array.replicate (m - args.size) undef, defers := [] } := by
  refine ⟨rfl, by simp, fun t => ?_⟩
  rw [look_startE]
  simp only [Nat.not_lt_zero, if_false, Nat.sub_zero]
  by_cases h : t < args.size
  · simp [Array.getD, h, show t < args.size + (m - args.size) from by omega]
  · by_cases h2 : t < args.size + (m - args.size)
    · simp [Array.getD, h, h2, Array.getElem_append]
    · simp [Array.getD, h, h2]

def resE (e : Env) : List ResultVar → Option (List Value)
  | [] => some []
  | .tmp t :: r => (resE e r).map (look e t :: ·)
  | .cell _ _ :: _ => none

def one : List Value → Value
  | [v] => v
  | l => .tuple l.toArray

theorem resE_mapM (f : ResultVar → Sem Value) (e : Env) (hf : ∀ t, f (.tmp t) = Sem.pure (look e t)) (P : Program) (w : World) (l : List ResultVar) :
    ∀ vs, resE e l = some vs → (l.mapM f).run P w = .ok vs w := by
  induction l with
  | nil =>
    intro vs h
    simp only [resE, Option.some.injEq] at h
    subst h
    rfl
  | cons r l ih =>
    intro vs h
    cases r with
    | cell a t => simp [resE] at h
    | tmp t =>
      simp only [resE, Option.map_eq_some_iff] at h
      obtain ⟨vs', h', rfl⟩ := h
      have h2 := ih vs' h'
      rw [List.mapM_cons, hf]
      show Sem.run P (l.mapM f >>= fun bs => pure (look e t :: bs)) w = _
      rw [Sem.run_bind, h2]
      rfl

theorem results_run {fn : Func} {tmps : Array Value} {e : Env} (hs : ∀ t, tmps.getD t undef = look e t) (P : Program) (w : World) (vs : List Value)
    (h : resE e fn.results.toList = some vs) : (results fn tmps).run P w = .ok (one vs) w := by
  unfold results
  rw [Array.mapM_eq_mapM_toList]
  rw [Sem.run_bind]
  rw [map_eq_pure_bind, Sem.run_bind, resE_mapM _ e (fun t => by rw [← hs]; rfl) P w _ vs h]
  match vs with
  | [] => rfl
  | [v] => rfl
  | a :: b :: r => rfl

/-- a call's value, and the blocks that it has laid -/
def callE (P : Program) (n : Nat) : Nat → FuncId → Array Value → List Obj → Option (Value × List Obj)
  | 0, _, _, _ => none
  | k + 1, f, args, os =>
    match P.funcs[f]? with
    | none => none
    | some fn =>
      match fn.body with
      | none => none
      | some c =>
        match codeE P n (callE P n k) (args.size + (fn.ntmps - args.size)) c ⟨startE 0 args.toList, os⟩ with
        | some (.exit _, _) => none
        | some (_, s) => (resE s.env fn.results.toList).map fun vs => (one vs, s.objs)
        | none => none

theorem callE_sound (P : Program) (n : Nat) : ∀ k, Sound P n (callE P n k) := by
  intro k
  induction k with
  | zero => intro f args os v os' h; simp [callE] at h
  | succ k ih =>
    intro f args os v os' h w hw
    simp only [callE] at h
    cases hf : P.funcs[f]? with
    | none => rw [hf] at h; cases h
    | some fn =>
      rw [hf] at h
      simp only at h
      cases hb : fn.body with
      | none => rw [hb] at h; cases h
      | some c =>
        rw [hb] at h
        simp only at h
        cases hc : codeE P n (callE P n k) (args.size + (fn.ntmps - args.size)) c ⟨startE 0 args.toList, os⟩ with
        | none => rw [hc] at h; cases h
        | some r =>
          obtain ⟨y, s⟩ := r
          rw [hc] at h
          refine calls_of_wp hf hb (wp_mono (codeE_sound ih _ w hw c _ y s _ hc (rep_start args fn.ntmps)) ?_)
          rintro e a1 w1 ⟨rfl, hr1, rfl⟩
          cases y with
          | exit id => simp at h
          | normal =>
            simp only [Option.map_eq_some_iff] at h
            obtain ⟨vs, h1, h2⟩ := h
            simp only [Prod.mk.injEq] at h2
            obtain ⟨rfl, rfl⟩ := h2
            exact ⟨hr1.defers, one vs, results_run hr1.slots P _ vs h1, rfl, rfl⟩
          | ret =>
            simp only [Option.map_eq_some_iff] at h
            obtain ⟨vs, h1, h2⟩ := h
            simp only [Prod.mk.injEq] at h2
            obtain ⟨rfl, rfl⟩ := h2
            exact ⟨hr1.defers, one vs, results_run hr1.slots P _ vs h1, rfl, rfl⟩

/-- a call that only computes -/
theorem calls_plain {P : Program} {k f : Nat} {args : Array Value} {v : Value} (w : World) (h : callE P w.heap.size k f args [] = some (v, [])) :
    Calls P f args w fun e w' => e = .returned v ∧ w' = w :=
  callE_sound P w.heap.size k f args [] v [] h w rfl

end Go.Proofs.Ytkmijcefehlmgaa
