/-
A walk over straight code by what its slots hold: the frame is a list of slots with their values.
-/
import Derived.Test.YtgbdplmpojkklaaDoorBase
namespace Go.Proofs.YtgbdplmpojkklaaDoor
open Go.RowKit

/-- The frame has n slots, no deferred call, and the listed slots hold the listed values (the first entry of a slot counts). -/
def Has (n : Nat) (l : List (Nat × Value)) (a : Act) : Prop :=
  a.tmps.size = n ∧ a.defers = [] ∧ ∀ i v, l.lookup i = some v → a.tmps[i]? = some v

/-- An operand's value, where it is known. -/
def evl (l : List (Nat × Value)) : Operand → Option Value
  | .tmp t => l.lookup t
  | .const v => some v
  | .global g => some (.pointer (some ⟨g, 0, none⟩))
  | .func f => some (.func (.func f) #[] #[])

theorem Has.eval {n : Nat} {l : List (Nat × Value)} {a : Act} (h : Has n l a) {x : Operand} {v : Value} (hx : evl l x = some v) : a.eval x = v := by
  cases x with
  | tmp t =>
    have := h.2.2 t v hx
    simp only [Act.eval, Array.getD_eq_getD_getElem?, this, Option.getD_some]
  | const c => exact Option.some.inj hx
  | global g => exact Option.some.inj hx
  | func f => exact Option.some.inj hx

theorem Has.put {n : Nat} {l : List (Nat × Value)} {a : Act} (h : Has n l a) (j : Nat) (hj : j < n) (v : Value) : Has n ((j, v) :: l) (a.put (some j) v) := by
  obtain ⟨h1, h2, h3⟩ := h
  refine ⟨by simp [Act.put, h1], h2, fun i u hi => ?_⟩
  simp only [Act.put]
  by_cases e : i = j
  · subst e
    simp only [List.lookup_cons, BEq.rfl, Option.some.injEq] at hi
    subst hi
    simp [h1, hj]
  · have hb : (i == j) = false := by simpa using e
    simp only [List.lookup_cons, hb] at hi
    have := h3 i u hi
    rw [Array.getElem?_setIfInBounds_ne (fun he => e he.symm)]
    exact this

theorem Has.nil {n : Nat} {a : Act} {l : List (Nat × Value)} (h : Has n l a) : Has n [] a := ⟨h.1, h.2.1, fun _ _ hh => by cases hh⟩

section
variable {P : Program}

def HW (P : Program) (c : Code) (Q : Exit → Act → World → Prop) (n : Nat) (l : List (Nat × Value)) (w : World) : Prop := ∀ a, Has n l a → c.wp P Q a w
def HL (P : Program) (ops : Array Oper) (Q : Exit → Act → World → Prop) (rest : List Oper) (n : Nat) (l : List (Nat × Value)) (w : World) : Prop := ∀ a, Has n l a → wpList P ops Q rest a w
def HQ (Q : Exit → Act → World → Prop) (e : Exit) (n : Nat) (l : List (Nat × Value)) (w : World) : Prop := ∀ a, Has n l a → Q e a w

variable {Q : Exit → Act → World → Prop} {n : Nat} {l : List (Nat × Value)} {w : World}

theorem hw_seq {x y : Code} (h : ∀ K : Act → World → Prop, (∀ l' w', HW P y Q n l' w' → ∀ a, Has n l' a → K a w') → HW P x (Exit.then K Q) n l w) : HW P (Code.seq x y) Q n l w :=
  fun a ha => wp_seq (h (fun a w => y.wp P Q a w) (fun _ _ hy a ha => hy a ha) a ha)
theorem hw_block {id : Nat} {c : Code} (h : HW P c (Exit.inBlock id Q) n l w) : HW P (Code.block id c) Q n l w := fun a ha => wp_block (h a ha)
theorem hw_ret (h : HQ Q .ret n l w) : HW P Code.ret Q n l w := fun a ha => wp_ret (h a ha)
theorem hw_skip (h : HQ Q .normal n l w) : HW P Code.skip Q n l w := fun a ha => wp_skip (h a ha)
theorem hw_exit {id : Nat} (h : HQ Q (.exit id) n l w) : HW P (Code.exit id) Q n l w := fun a ha => wp_exit (h a ha)
theorem hw_region {id : Nat} {ops : List Oper} (h : HL P ops.toArray Q ops n l w) : HW P (Code.region id ops.toArray false) Q n l w := fun a ha => wp_region_lit (h a ha)
theorem hw_cond_t {c : Operand} {x y : Code} (hc : evl l c = some (.bool true)) (h : HW P x Q n l w) : HW P (Code.cond c x y) Q n l w :=
  fun a ha => wp_cond (ha.eval hc) (h a ha)
theorem hw_cond_f {c : Operand} {x y : Code} (hc : evl l c = some (.bool false)) (h : HW P y Q n l w) : HW P (Code.cond c x y) Q n l w :=
  fun a ha => wp_cond (ha.eval hc) (h a ha)
theorem hq_then {K : Act → World → Prop} {y : Code} (hK : ∀ l' w', HW P y Q n l' w' → ∀ a, Has n l' a → K a w') (h : HW P y Q n l w) : HQ (Exit.then K Q) .normal n l w := fun a ha => hK l w h a ha
theorem hq_then_ret {K : Act → World → Prop} (h : HQ Q .ret n l w) : HQ (Exit.then K Q) .ret n l w := h
theorem hq_then_exit {K : Act → World → Prop} {id : Nat} (h : HQ Q (.exit id) n l w) : HQ (Exit.then K Q) (.exit id) n l w := h
theorem hq_block {id : Nat} (h : HQ Q .normal n l w) : HQ (Exit.inBlock id Q) .normal n l w := h
theorem hq_block_ret {id : Nat} (h : HQ Q .ret n l w) : HQ (Exit.inBlock id Q) .ret n l w := h
theorem hq_block_exit {id : Nat} (h : HQ Q .normal n l w) : HQ (Exit.inBlock id Q) (.exit id) n l w := by
  intro a ha; simp only [Exit.inBlock, if_true]; exact h a ha
theorem hq_block_exit_ne {id id' : Nat} (hne : id' ≠ id) (h : HQ Q (.exit id') n l w) : HQ (Exit.inBlock id Q) (.exit id') n l w := by
  intro a ha; simp only [Exit.inBlock, if_neg hne]; exact h a ha
theorem hl_nil {ops : Array Oper} (h : HQ Q .normal n l w) : HL P ops Q [] n l w := fun a ha => wpList_nil (h a ha)

/-- The function's end, one result in a slot. -/
theorem hq_ret1 {fn : Func} {R : Ending → World → Prop} {t : Tmp} {v : Value} (hr : fn.results = #[.tmp t]) (hv : l.lookup t = some v) (h : R (.returned v) w) : HQ (bodyPost P fn R) .ret n l w := by
  intro a ha
  refine bodyPost_ret (results_tmp hr _ _ _) ha.2.1 ?_
  rw [show a.tmps.getD t undef = v from ha.eval (x := .tmp t) hv]; exact h
theorem hq_ret2 {fn : Func} {R : Ending → World → Prop} {t u : Tmp} {v x : Value} (hr : fn.results = #[.tmp t, .tmp u]) (hv : l.lookup t = some v) (hx : l.lookup u = some x) (h : R (.returned (.tuple #[v, x])) w) : HQ (bodyPost P fn R) .ret n l w := by
  intro a ha
  refine bodyPost_ret (results_tmp2 hr _ _ _) ha.2.1 ?_
  rw [show a.tmps.getD t undef = v from ha.eval (x := .tmp t) hv, show a.tmps.getD u undef = x from ha.eval (x := .tmp u) hx]; exact h

variable {ops : Array Oper} {rest : List Oper} {dst : Nat} {ty : TypeId} {pos : String} {aft : Array Edge}

/-- An operation without a guard. -/
theorem hl_step {o : Oper} (hg : o.guard = none) (h : ∀ a, Has n l a → ∀ K : Act → World → Prop, (∀ a w, wpList P ops Q rest a w → K a w) → o.wp P a w K Q) : HL P ops Q (o :: rest) n l w :=
  fun a ha => wpList_plain hg (h a ha)

theorem hl_move {x : Operand} {v : Value} (hd : dst < n) (hx : evl l x = some v) (h : HL P ops Q rest n ((dst, v) :: l) w) :
    HL P ops Q (⟨some dst, .move x, ty, pos, aft, none⟩ :: rest) n l w :=
  hl_step rfl fun _ ha _ hK => by
    unfold Oper.wp execOp
    simp only [ha.eval hx]
    exact hK _ _ (h _ (ha.put dst hd v))
theorem hl_assign {x : Operand} {v : Value} (hd : dst < n) (hx : evl l x = some v) (h : HL P ops Q rest n ((dst, v) :: l) w) :
    HL P ops Q (⟨some dst, .assign x, ty, pos, aft, none⟩ :: rest) n l w :=
  hl_step rfl fun _ ha _ hK => by
    unfold Oper.wp execOp
    simp only [ha.eval hx]
    exact hK _ _ (h _ (ha.put dst hd v))

/-- A float's operation. The result's name e' stands for 'f ex ey'. -/
theorem hl_fop {op : BinOp} {t t' : TypeId} {x y : Operand} {f : Nat → Nat → Nat} (hop : arOf op = some f) {bx b ex ey : Nat} (hd : dst < n)
    (hx : evl l x = some (.float .f64 bx)) (hy : evl l y = some (.float .f64 b)) (hex : E bx ex) (hey : E b ey) {w0 : World} (hs : St w0 w)
    (h : ∀ r w' e', e' = f ex ey → E r e' → St w0 w' → HL P ops Q rest n ((dst, .float .f64 r) :: l) w') :
    HL P ops Q (⟨some dst, .binOp op t x y t', ty, pos, aft, none⟩ :: rest) n l w :=
  hl_step rfl fun _ ha _ hK => wp_fop op t t' x y rfl f hop bx b (ha.eval hx) (ha.eval hy) ex ey hex hey w0 hs fun r w' hr hw => hK _ _ (h r w' _ rfl hr hw _ (ha.put dst hd _))
theorem hl_fcmp {op : BinOp} {t t' : TypeId} {x y : Operand} {f : Nat → Nat → Bool} (hop : cmpOf op = some f) {bx b ex ey : Nat} (hd : dst < n)
    (hx : evl l x = some (.float .f64 bx)) (hy : evl l y = some (.float .f64 b)) (hex : E bx ex) (hey : E b ey)
    (h1 : f ex ey = true → HL P ops Q rest n ((dst, .bool true) :: l) w) (h2 : f ex ey = false → HL P ops Q rest n ((dst, .bool false) :: l) w) :
    HL P ops Q (⟨some dst, .binOp op t x y t', ty, pos, aft, none⟩ :: rest) n l w :=
  hl_step rfl fun _ ha _ hK => wp_fcmp op t t' x y rfl f hop bx b (ha.eval hx) (ha.eval hy) ex ey hex hey (fun hb => hK _ _ (h1 hb _ (ha.put dst hd _))) (fun hb => hK _ _ (h2 hb _ (ha.put dst hd _)))
theorem hl_fneg {t : TypeId} {x : Operand} {bx ex : Nat} (hd : dst < n) (hx : evl l x = some (.float .f64 bx)) (hex : E bx ex)
    (h : ∀ r e', e' = fneg ex → E r e' → HL P ops Q rest n ((dst, .float .f64 r) :: l) w) :
    HL P ops Q (⟨some dst, .unOp .neg t x, ty, pos, aft, none⟩ :: rest) n l w :=
  hl_step rfl fun _ ha _ hK => wp_fneg t x rfl bx (ha.eval hx) ex hex fun r hr => hK _ _ (h r _ rfl hr _ (ha.put dst hd _))

/-- An operation on integers whose result is known. -/
def Known (P : Program) (op : BinOp) (vx vy v : Value) : Prop :=
  ∀ t x y w, (eqGuard op t x y vx vy).run P w = .ok () w ∧ (binOp op t vx vy).run P w = .ok v w
def KnownC (P : Program) (s d : TypeId) (vx v : Value) : Prop := ∀ w, (convert s d vx).run P w = .ok v w
/-- A float's operation whose result is no NaN. -/
def KnownF (op : BinOp) (x y r : Nat) : Prop := (arOf op).isSome = true ∧ floatBits op .f64 x y = some r

theorem hl_known {op : BinOp} {t t' : TypeId} {x y : Operand} {ki kj : IntKind} {p q : Int} {v : Value} (hd : dst < n) (hx : evl l x = some (.int ki p)) (hy : evl l y = some (.int kj q))
    (hk : Known P op (.int ki p) (.int kj q) v) (h : HL P ops Q rest n ((dst, v) :: l) w) :
    HL P ops Q (⟨some dst, .binOp op t x y t', ty, pos, aft, none⟩ :: rest) n l w :=
  hl_step rfl fun _ ha _ hK => by
    unfold Oper.wp execOp
    simp only [ha.eval hx, ha.eval hy, Sem.run_bind, (hk t x y w).1, Result.andThen_ok, (hk t x y w).2]
    exact hK _ _ (h _ (ha.put dst hd v))
theorem hl_knownC {s d : TypeId} {x : Operand} {ki : IntKind} {p : Int} {v : Value} (hd : dst < n) (hx : evl l x = some (.int ki p))
    (hk : KnownC P s d (.int ki p) v) (h : HL P ops Q rest n ((dst, v) :: l) w) :
    HL P ops Q (⟨some dst, .convert s d x, ty, pos, aft, none⟩ :: rest) n l w :=
  hl_step rfl fun _ ha _ hK => by
    unfold Oper.wp execOp
    simp only [ha.eval hx, Sem.run_bind, hk w, Result.andThen_ok]
    exact hK _ _ (h _ (ha.put dst hd v))
theorem hl_fval {op : BinOp} {t t' : TypeId} {x y : Operand} {bx b r : Nat} (hd : dst < n) (hx : evl l x = some (.float .f64 bx)) (hy : evl l y = some (.float .f64 b))
    (hv : KnownF op bx b r) (h : HL P ops Q rest n ((dst, .float .f64 r) :: l) w) :
    HL P ops Q (⟨some dst, .binOp op t x y t', ty, pos, aft, none⟩ :: rest) n l w :=
  hl_step rfl fun _ ha _ hK => by
    have hq : ∀ w : World, (eqGuard op t x y (.float .f64 bx) (.float .f64 b)).run P w = .ok () w := by
      intro w; cases op <;> first | rfl | cases hv.1
    unfold Oper.wp execOp
    simp only [ha.eval hx, ha.eval hy, Sem.run_bind, hq, Result.andThen_ok]
    rw [run_float_arith w op t .f64 bx b r hv.2]
    exact hK _ _ (h _ (ha.put dst hd _))

/-- A function of the program is called with one argument ¦ none ¦ two. -/
theorem exec_call {f : FuncId} {args : Array Operand} {ats : Array TypeId} {o : Oper} {a : Act} (ho : o.op = .call ⟨.value (.func f), args, ats⟩) :
    (execOp a.eval o).run P w = (callFunc f (args.map a.eval)).run P w := by
  unfold execOp
  simp [ho, resolve, Act.eval, invoke, Deferred.ofValue]

/-- The callee has a body: the call enters it. -/
def Enters (P : Program) (f : FuncId) : Prop := ∀ args w, (callFunc f args).run P w = .ok (.enter f args) w
theorem enters_of {f : FuncId} {fn : Func} (hf : P.funcs[f]? = some fn) (hname : (fn.name == "runtime.NumGoroutine") = false) (hb : fn.body.isSome = true) : Enters P f := by
  intro args w
  have h1 : fn.name ≠ "runtime.NumGoroutine" := by simpa using hname
  have h2 : fn.body ≠ none := by intro h; rw [h] at hb; cases hb
  simp [callFunc, hf, h1, h2]

theorem hl_call {f : FuncId} {args : Array Operand} {ats : Array TypeId} {vs : Array Value} {R : Ending → World → Prop} (hd : dst < n) (hen : Enters P f)
    (hv : ∀ a, Has n l a → args.map a.eval = vs) (hc : Calls P f vs w R) (h : ∀ e w', R e w' → ∃ r, e = .returned r ∧ HL P ops Q rest n ((dst, r) :: l) w') :
    HL P ops Q (⟨some dst, .call ⟨.value (.func f), args, ats⟩, ty, pos, aft, none⟩ :: rest) n l w :=
  hl_step rfl fun a ha K hK => by
    unfold Oper.wp
    rw [exec_call rfl, hv a ha, hen vs w]
    show Calls P f vs w _
    refine hc.mono fun e w' he => ?_
    obtain ⟨r, rfl, hh⟩ := h e w' he
    exact hK _ _ (hh _ (ha.put dst hd r))
theorem args1 {x : Operand} {v : Value} (hx : evl l x = some v) : ∀ a, Has n l a → #[x].map a.eval = #[v] := fun a ha => by simp [ha.eval hx]
theorem args2 {x y : Operand} {v u : Value} (hx : evl l x = some v) (hy : evl l y = some u) : ∀ a, Has n l a → #[x, y].map a.eval = #[v, u] := fun a ha => by simp [ha.eval hx, ha.eval hy]
theorem args3 {x y z : Operand} {v u t : Value} (hx : evl l x = some v) (hy : evl l y = some u) (hz : evl l z = some t) : ∀ a, Has n l a → #[x, y, z].map a.eval = #[v, u, t] := fun a ha => by simp [ha.eval hx, ha.eval hy, ha.eval hz]
theorem args0 : ∀ a, Has n l a → (#[] : Array Operand).map a.eval = #[] := fun a _ => by simp

/-- A function without a body that gives a value and leaves the world. -/
theorem hl_ext {f : FuncId} {args : Array Operand} {ats : Array TypeId} {vs : Array Value} {r : Value} (hd : dst < n)
    (hv : ∀ a, Has n l a → args.map a.eval = vs) (hrun : ∀ w, (callFunc f vs).run P w = .ok (.value r) w) (h : HL P ops Q rest n ((dst, r) :: l) w) :
    HL P ops Q (⟨some dst, .call ⟨.value (.func f), args, ats⟩, ty, pos, aft, none⟩ :: rest) n l w :=
  hl_step rfl fun a ha K hK => by
    unfold Oper.wp
    rw [exec_call rfl, hv a ha, hrun w]
    exact hK _ _ (h _ (ha.put dst hd r))

theorem hl_callF {f : FuncId} {args : Array Operand} {ats : Array TypeId} {vs : Array Value} {e0 : Nat} {w0 : World} (hd : dst < n) (hen : Enters P f)
    (hv : ∀ a, Has n l a → args.map a.eval = vs) (hc : Calls P f vs w (RF e0 w0)) (h : ∀ r w', E r e0 → St w0 w' → HL P ops Q rest n ((dst, .float .f64 r) :: l) w') :
    HL P ops Q (⟨some dst, .call ⟨.value (.func f), args, ats⟩, ty, pos, aft, none⟩ :: rest) n l w :=
  hl_call hd hen hv hc fun _ w' ⟨r, he, hr, hs⟩ => ⟨_, he, h r w' hr hs⟩
theorem hl_callB {f : FuncId} {args : Array Operand} {ats : Array TypeId} {vs : Array Value} {b0 : Bool} {w0 : World} (hd : dst < n) (hen : Enters P f)
    (hv : ∀ a, Has n l a → args.map a.eval = vs) (hc : Calls P f vs w (RB b0 w0)) (h1 : b0 = true → ∀ w', St w0 w' → HL P ops Q rest n ((dst, .bool true) :: l) w')
    (h2 : b0 = false → ∀ w', St w0 w' → HL P ops Q rest n ((dst, .bool false) :: l) w') :
    HL P ops Q (⟨some dst, .call ⟨.value (.func f), args, ats⟩, ty, pos, aft, none⟩ :: rest) n l w :=
  hl_call hd hen hv hc fun _ w' ⟨hb, hs⟩ => by
    rcases hb with ⟨hb, he⟩ | ⟨hb, he⟩
    · exact ⟨_, he, h1 hb w' hs⟩
    · exact ⟨_, he, h2 hb w' hs⟩

theorem hl_pick_t {c x y : Operand} {v : Value} (hd : dst < n) (hc : evl l c = some (.bool true)) (hx : evl l x = some v) (h : HL P ops Q rest n ((dst, v) :: l) w) :
    HL P ops Q (⟨some dst, .pick c x y, ty, pos, aft, none⟩ :: rest) n l w :=
  hl_step rfl fun _ ha _ hK => by
    unfold Oper.wp execOp
    simp only [ha.eval hc, ha.eval hx]
    exact hK _ _ (h _ (ha.put dst hd v))
theorem hl_pick_f {c x y : Operand} {v : Value} (hd : dst < n) (hc : evl l c = some (.bool false)) (hy : evl l y = some v) (h : HL P ops Q rest n ((dst, v) :: l) w) :
    HL P ops Q (⟨some dst, .pick c x y, ty, pos, aft, none⟩ :: rest) n l w :=
  hl_step rfl fun _ ha _ hK => by
    unfold Oper.wp execOp
    simp only [ha.eval hc, ha.eval hy]
    exact hK _ _ (h _ (ha.put dst hd v))
theorem hl_not {t : TypeId} {x : Operand} {b : Bool} (hd : dst < n) (hx : evl l x = some (.bool b)) (h : HL P ops Q rest n ((dst, .bool !b) :: l) w) :
    HL P ops Q (⟨some dst, .unOp .not t x, ty, pos, aft, none⟩ :: rest) n l w :=
  hl_step rfl fun _ ha _ hK => by
    unfold Oper.wp execOp
    simp only [ha.eval hx]
    exact hK _ _ (h _ (ha.put dst hd _))

/-- What a guard looks at. -/
def yl (ops : Array Oper) (l : List (Nat × Value)) (j : Nat) : Option Bool :=
  match (ops[j]?).bind (·.dst) with
  | some d => (match l.lookup d with
    | some (.bool b) => some b
    | _ => none)
  | none => none
theorem yielded_of {a : Act} (ha : Has n l a) {j : Nat} {b : Bool} (h : yl ops l j = some b) : yielded ops a.tmps j = some b := by
  unfold yl at h
  unfold yielded
  cases hd : (ops[j]?).bind (·.dst) with
  | none => rw [hd] at h; cases h
  | some d =>
    rw [hd] at h
    simp only at h
    cases hl : l.lookup d with
    | none => rw [hl] at h; cases h
    | some v =>
      rw [hl] at h
      have := ha.2.2 d v hl
      simp only [Option.bind_some, this]
      cases v <;> simp_all
theorem hl_run {op : Op} {j : Nat} {b : Bool} {d : Option Tmp} (hy : yl ops l j = some b) (h : HL P ops Q (⟨d, op, ty, pos, aft, none⟩ :: rest) n l w) :
    HL P ops Q (⟨d, op, ty, pos, aft, some (j, b)⟩ :: rest) n l w := by
  intro a ha
  have h1 := h a ha
  have hw : Region.wanted (⟨d, op, ty, pos, aft, some (j, b)⟩ : Oper) (yielded ops a.tmps) = true := by simp [Region.wanted, yielded_of ha hy]
  unfold wpList at h1 ⊢
  rw [if_pos hw]
  rw [if_pos (by rfl)] at h1
  exact h1
theorem hl_pass {op : Op} {j : Nat} {b : Bool} (hd : dst < n) (hy : yl ops l j = some !b) (h : HL P ops Q rest n ((dst, undef) :: l) w) :
    HL P ops Q (⟨some dst, op, ty, pos, aft, some (j, b)⟩ :: rest) n l w := by
  intro a ha
  have hw : Region.wanted (⟨some dst, op, ty, pos, aft, some (j, b)⟩ : Oper) (yielded ops a.tmps) = false := by
    simp [Region.wanted, yielded_of ha hy]
  exact wpList_skip hw (h _ (ha.put dst hd undef))

/-- The start: the parameters in their slots. -/
theorem calls_hw {f : FuncId} {fn : Func} {c : Code} {args : Array Value} {R : Ending → World → Prop} (hf : P.funcs[f]? = some fn) (hb : fn.body = some c) (hn : fn.ntmps = n) (hsz : args.size ≤ n)
    (hl : ∀ i v, l.lookup i = some v → args[i]? = some v) (h : HW P c (bodyPost P fn R) n l w) : Calls P f args w R := by
  refine calls_of_wp hf hb (h _ ⟨?_, rfl, fun i v hi => ?_⟩)
  · simp [hn]; omega
  · have := hl i v hi
    have hlt : i < args.size := by
      by_cases hh : i < args.size
      · exact hh
      · rw [Array.getElem?_eq_none (by omega)] at this; cases this
    rw [Array.getElem?_append_left hlt]; exact this
end
attribute [irreducible] HW HL HQ
end Go.Proofs.YtgbdplmpojkklaaDoor
