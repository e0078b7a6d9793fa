/-
The walk over slots, further laws: tuples, tables, slices, loops of few rounds, regions that draw their order and only read.
-/
import Derived.Test.YtgbdplmpojkklaaDoorHw
import Derived.LoopN
import Derived.Deep.Quiet
namespace Go.Proofs.YtgbdplmpojkklaaDoor
open Go.RowKit

section
variable {P : Program} {Q : Exit → Act → World → Prop} {n : Nat} {l : List (Nat × Value)} {w : World}
variable {ops : Array Oper} {rest : List Oper} {dst : Nat} {ty : TypeId} {pos : String} {aft : Array Edge}

/-- The operation gives this value and leaves the world. -/
def Gives (P : Program) (n : Nat) (l : List (Nat × Value)) (o : Oper) (w : World) (v : Value) : Prop := ∀ a, Has n l a → (execOp a.eval o).run P w = .ok (.value v) w

theorem hl_val {op : Op} {v : Value} (hd : dst < n) (hrun : Gives P n l ⟨some dst, op, ty, pos, aft, none⟩ w v) (h : HL P ops Q rest n ((dst, v) :: l) w) :
    HL P ops Q (⟨some dst, op, ty, pos, aft, none⟩ :: rest) n l w := by
  refine hl_step rfl fun a ha K hK => ?_
  unfold HL at h
  unfold Oper.wp
  rw [hrun a ha]
  exact hK _ _ (h _ (ha.put dst hd v))

theorem g_extract {x : Operand} {i : Nat} {vs : Array Value} {v : Value} (hx : evl l x = some (.tuple vs)) (hv : vs[i]? = some v) :
    Gives P n l ⟨some dst, .extract x i, ty, pos, aft, none⟩ w v := by
  intro a ha
  unfold execOp
  simp [ha.eval hx, Instr.extract, hv]
theorem g_index_slice {t e : TypeId} {x ix : Operand} {p : Addr} {len cap : Nat} {k : IntKind} {i : Nat} (hu : P.underlying t = some (.slice e)) (hs : ∀ w, (sizeOf e).run P w = .ok 1 w)
    (hx : evl l x = some (.slice (some p) len cap)) (hi : evl l ix = some (.int k i)) (hlt : i < len) :
    Gives P n l ⟨some dst, .indexAddr t x ix, ty, pos, aft, none⟩ w (.pointer (some (p.add i))) := by
  intro a ha
  have he : P.elem t = e := by unfold Program.elem; rw [hu]
  unfold execOp
  simp only [ha.eval hx, ha.eval hi, Sem.run_bind]
  rw [run_indexAt_slice _ _ _ _ _ _ _ (by rw [he]; exact hu), if_pos (by omega), he, hs]
  simp
theorem g_index_array {t e : TypeId} {m : Nat} {x ix : Operand} {p : Addr} {k : IntKind} {i : Nat} (hu : P.underlying t = some (.array m e)) (hs : ∀ w, (sizeOf e).run P w = .ok 1 w)
    (hx : evl l x = some (.pointer (some p))) (hi : evl l ix = some (.int k i)) (hlt : i < m) :
    Gives P n l ⟨some dst, .indexAddr t x ix, ty, pos, aft, none⟩ w (.pointer (some (p.add i))) := by
  intro a ha
  have he : P.elem t = e := by unfold Program.elem; rw [hu]
  have hm : P.arrayLen t = m := by unfold Program.arrayLen; rw [hu]
  unfold execOp
  simp only [ha.eval hx, ha.eval hi, Sem.run_bind]
  rw [run_indexAt_array _ _ _ _ _ (by rw [he, hm]; exact hu), hm, if_pos (by omega), he, hs]
  simp
theorem g_load {t : TypeId} {x : Operand} {p : Addr} {v : Value} (hu : ∀ w, (isAgg t).run P w = .ok false w)
    (hx : evl l x = some (.pointer (some p))) (hc : w.cell? p = some v) :
    Gives P n l ⟨some dst, .load t x, ty, pos, aft, none⟩ w v := by
  intro a ha
  unfold execOp
  simp only [ha.eval hx]
  simp [Instr.loadAt, Instr.sureAddr, loadVar, hu, hc]
theorem g_move {x : Operand} {v : Value} (hx : evl l x = some v) : Gives P n l ⟨some dst, .move x, ty, pos, aft, none⟩ w v := by
  intro a ha; unfold execOp; simp only [ha.eval hx]; rfl
theorem g_assign {x : Operand} {v : Value} (hx : evl l x = some v) : Gives P n l ⟨some dst, .assign x, ty, pos, aft, none⟩ w v := by
  intro a ha; unfold execOp; simp only [ha.eval hx]; rfl
theorem g_known {op : BinOp} {t t' : TypeId} {x y : Operand} {ki kj : IntKind} {p q : Int} {v : Value} (hx : evl l x = some (.int ki p)) (hy : evl l y = some (.int kj q))
    (hk : Known P op (.int ki p) (.int kj q) v) : Gives P n l ⟨some dst, .binOp op t x y t', ty, pos, aft, none⟩ w v := by
  intro a ha; unfold execOp
  simp only [ha.eval hx, ha.eval hy, Sem.run_bind, (hk t x y w).1, Result.andThen_ok, (hk t x y w).2, Sem.run_pure]
theorem g_len {t : TypeId} {e : TypeId} {x : Operand} {p : Option Addr} {len cap : Nat} (hu : P.underlying t = some (.slice e)) (hx : evl l x = some (.slice p len cap)) :
    Gives P n l ⟨some dst, .call ⟨.builtin .len, #[x], #[t]⟩, ty, pos, aft, none⟩ w (.int .i64 len) := by
  intro a ha
  have he : P.elem t = e := by unfold Program.elem; rw [hu]
  unfold execOp
  simp [resolve, invoke, ha.eval hx, builtin, run_len_slice w t ty p len cap (by rw [he]; exact hu), goInt]

/-- A guard that looks at an operation which was passed over itself. -/
theorem hl_pass_u {op : Op} {j d : Nat} {b : Bool} (hd : dst < n) (hj : (ops[j]?).bind (·.dst) = some d) (hl : l.lookup d = some undef) (h : HL P ops Q rest n ((dst, undef) :: l) w) :
    HL P ops Q (⟨some dst, op, ty, pos, aft, some (j, b)⟩ :: rest) n l w := by
  unfold HL at *
  intro a ha
  have hy : yielded ops a.tmps j = none := by
    unfold yielded
    have := ha.2.2 d undef hl
    rw [hj]
    simp only [Option.bind_some, this]
    rfl
  have hw : Region.wanted (⟨some dst, op, ty, pos, aft, some (j, b)⟩ : Oper) (yielded ops a.tmps) = false := by
    simp [Region.wanted, hy]
  exact wpList_skip hw (h _ (ha.put dst hd undef))

-- REGIONS THAT DRAW THEIR ORDER AND ONLY READ
def HU (P : Program) (ops : Array Oper) (C : World → Prop) (Qa : Act → Prop) (rest : List Oper) (n : Nat) (l : List (Nat × Value)) : Prop := ∀ a, Has n l a → wpQuiet P ops C Qa rest a
def Drawn (w w' : World) : Prop := ∃ k, w' = w.drewN k
theorem hw_region_q {id : Nat} {o : List Oper} (hm : P.follows .mixedOrders = true) (hB : Region.lexB .any o.toArray = true)
    (h : HU P o.toArray (Drawn w) (fun a' => ∀ w', Drawn w w' → Q .normal a' w') o n l) : HW P (Code.region id o.toArray true) Q n l w := by
  unfold HW; exact fun a ha => wp_region_quiet_lit hm hB (h a ha)
theorem hu_nil {C : World → Prop} (h : ∀ w', Drawn w w' → HQ Q .normal n l w') : HU P ops C (fun a' => ∀ w', Drawn w w' → Q .normal a' w') [] n l := by
  intro a ha
  refine wpQuiet_nil fun w' hw => ?_
  have := h w' hw
  unfold HQ at this
  exact this a ha
theorem hu_val {op : Op} {v : Value} {C : World → Prop} {Qa : Act → Prop} (hd : dst < n) (hrun : ∀ w, C w → Gives P n l ⟨some dst, op, ty, pos, aft, none⟩ w v) (h : HU P ops C Qa rest n ((dst, v) :: l)) :
    HU P ops C Qa (⟨some dst, op, ty, pos, aft, none⟩ :: rest) n l := by
  intro a ha
  refine wpQuiet_step fun K hK => ?_
  rw [if_pos (by rfl)]
  refine ⟨v, fun w' hw => ?_, hK _ (h _ (ha.put dst hd v))⟩
  unfold Oper.quietAt
  rw [hrun w' hw a ha]
  exact ⟨rfl, rfl⟩
theorem St.drawn {a w w' : World} (h : St a w) (hd : Drawn w w') : St a w' := by
  obtain ⟨k, rfl⟩ := hd
  exact ⟨h.os, h.tape, h.output, h.size, h.block⟩

-- LOOPS OF FEW ROUNDS
def HR (P : Program) (c : Code) (Q : Exit → Act → World → Prop) (k n : Nat) (l : List (Nat × Value)) (w : World) : Prop := ∀ a, Has n l a → Code.rounds P c Q k a w
theorem hw_loop {c : Code} (k : Nat) (h : HR P c Q k n l w) : HW P (Code.loop c) Q n l w := by
  unfold HW; exact fun a ha => wp_loop_rounds k (h a ha)
theorem hr_succ {c : Code} {k : Nat} (h : ∀ K : Act → World → Prop, (∀ l' w', HR P c Q k n l' w' → ∀ a, Has n l' a → K a w') → HW P c (Exit.then K Q) n l w) : HR P c Q (k + 1) n l w := by
  intro a ha
  rw [rounds_succ]
  have := h (Code.rounds P c Q k) (fun l' w' hr a ha => hr a ha)
  unfold HW at this
  exact this a ha
theorem hq_thenR {c : Code} {k : Nat} {K : Act → World → Prop} {Q' : Exit → Act → World → Prop} (hK : ∀ l' w', HR P c Q k n l' w' → ∀ a, Has n l' a → K a w') (h : HR P c Q k n l w) : HQ (Exit.then K Q') .normal n l w := by
  unfold HQ; exact fun a ha => hK l w h a ha

-- LESS IS KNOWN
theorem Has.weak {l' : List (Nat × Value)} {a : Act} (h : Has n l a) (hs : ∀ i v, l'.lookup i = some v → l.lookup i = some v) : Has n l' a := ⟨h.1, h.2.1, fun i v hi => h.2.2 i v (hs i v hi)⟩
/-- Each entry of the short list is what the long one says. -/
def subB (l' l : List (Nat × Value)) : Prop := ∀ p, p ∈ l' → l.lookup p.1 = some p.2
theorem lookup_mem {i : Nat} {v : Value} : ∀ {l : List (Nat × Value)}, l.lookup i = some v → (i, v) ∈ l
  | [], h => by cases h
  | (j, u) :: l, h => by
    by_cases e : i = j
    · subst e; simp [List.lookup] at h; subst h; exact List.mem_cons_self
    · have hb : (i == j) = false := by simpa using e
      simp only [List.lookup_cons, hb] at h
      exact List.mem_cons_of_mem _ (lookup_mem h)
theorem Has.sub {l' : List (Nat × Value)} {a : Act} (h : Has n l a) (hs : subB l' l) : Has n l' a := h.weak fun i v hi => hs (i, v) (lookup_mem hi)
theorem hw_weak {c : Code} {l' : List (Nat × Value)} (hs : subB l' l) (h : HW P c Q n l' w) : HW P c Q n l w := by
  unfold HW at *; exact fun a ha => h a (ha.sub hs)
theorem hq_K {K : Act → World → Prop} {Q' : Exit → Act → World → Prop} {l' : List (Nat × Value)} (hs : subB l' l) (h : ∀ a, Has n l' a → K a w) : HQ (Exit.then K Q') .normal n l w := by
  unfold HQ; exact fun a ha => h a (ha.sub hs)

-- A SLICE OF TWO
theorem hl_build2 {t e : TypeId} {x y : Operand} {r0 r1 : Nat} {w0 : World} (hd : dst < n) (hu : P.underlying t = some (.slice e)) (hz : ∀ w, (sizeOf e).run P w = .ok 1 w) (hz0 : ∀ w, (zeroValue e).run P w = .ok (.float .f64 0) w)
    (hx : evl l x = some (.float .f64 r0)) (hy : evl l y = some (.float .f64 r1)) (hs : St w0 w)
    (h : ∀ b wA, St w0 wA ∧ wA.cell? ⟨b, 0, none⟩ = some (.float .f64 r0) ∧ wA.cell? ⟨b, 1, none⟩ = some (.float .f64 r1) ∧ b < wA.heap.size → St wA wA → HL P ops Q rest n ((dst, .slice (some ⟨b, 0, none⟩) 2 2) :: l) wA) :
    HL P ops Q (⟨some dst, .buildSlice t 2 #[(0, x), (1, y)], ty, pos, aft, none⟩ :: rest) n l w := by
  refine hl_step rfl fun a ha K hK => ?_
  have h1 := h w.heap.size (w.alloc (.cells #[.float .f64 r0, .float .f64 r1] e)) ⟨hs.alloc _, by simp, by simp, by simp⟩ (St.refl _)
  unfold HL at h1
  unfold Oper.wp execOp
  simp [ha.eval hx, ha.eval hy, Instr.buildSlice, run_underlying hu, hz, hz0]
  have hf : Instr.fill (fun i => some (i, 1)) (Array.map (fun x => (Value.float FloatKind.f64 0).cells[x % (Value.float FloatKind.f64 0).cells.size]!) (Array.range 2)) [(0, .float .f64 r0), (1, .float .f64 r1)] = some #[.float .f64 r0, .float .f64 r1] := by
    simp [Instr.fill, Value.cells, Array.range, Array.zipIdx]
    first | rfl | decide | skip
  rw [hf]
  simp [newRow]
  exact hK _ _ (h1 _ (ha.put dst hd _))
end
attribute [irreducible] HU HR
end Go.Proofs.YtgbdplmpojkklaaDoor
