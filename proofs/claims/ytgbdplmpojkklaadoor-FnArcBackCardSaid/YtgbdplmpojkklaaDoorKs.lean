/-
The walk over slots: what Sin, Cos, Tan and Sincos need besides.
-/
import Derived.Test.YtgbdplmpojkklaaDoorTr
namespace Go.Proofs.YtgbdplmpojkklaaDoor
open Go.RowKit

/-- The code behind the first part. -/
def sn : Code → Code
  | .seq _ y => y
  | c => c

section
variable {P : Program} {Q : Exit → Act → World → Prop} {n : Nat} {l : List (Nat × Value)} {w : World}
variable {ops : Array Oper} {rest : List Oper} {dst : Nat} {ty : TypeId} {pos : String} {aft : Array Edge}
theorem hl_fneg_x {t : TypeId} {x : Operand} {bx : Nat} (hd : dst < n) (hx : evl l x = some (.float .f64 bx)) (h : HL P ops Q rest n ((dst, .float .f64 (fneg bx)) :: l) w) :
    HL P ops Q (⟨some dst, .unOp .neg t x, ty, pos, aft, none⟩ :: rest) n l w := by
  refine hl_step rfl fun a ha K hK => ?_
  unfold HL at h
  unfold Oper.wp execOp
  simp only [ha.eval hx, Sem.run_bind]
  exact hK _ _ (h _ (ha.put dst hd _))
theorem hl_convF {s d : TypeId} {x : Operand} {b : Nat} {v : Value} (hd : dst < n) (hx : evl l x = some (.float .f64 b))
    (hk : KnownC P s d (.float .f64 b) v) (h : HL P ops Q rest n ((dst, v) :: l) w) :
    HL P ops Q (⟨some dst, .convert s d x, ty, pos, aft, none⟩ :: rest) n l w := by
  refine hl_step rfl fun a ha K hK => ?_
  unfold HL at h
  unfold Oper.wp execOp
  simp only [ha.eval hx, Sem.run_bind, hk w, Result.andThen_ok]
  exact hK _ _ (h _ (ha.put dst hd v))
theorem hl_callX {f : FuncId} {args : Array Operand} {ats : Array TypeId} {vs : Array Value} {e0 : Nat} {w0 : World} (hd : dst < n) (hen : Enters P f)
    (hv : ∀ a, Has n l a → args.map a.eval = vs) (hc : Calls P f vs w (RF e0 w0)) (hn : nan e0 = false) (h : ∀ w', St w0 w' → HL P ops Q rest n ((dst, .float .f64 e0) :: l) w') :
    HL P ops Q (⟨some dst, .call ⟨.value (.func f), args, ats⟩, ty, pos, aft, none⟩ :: rest) n l w :=
  hl_call hd hen hv hc fun _ w' ⟨r, he, hr, hs⟩ => ⟨_, (by rw [← hr.eq hn]; exact he), h w' hs⟩
/-- A cell of a table of floats. -/
theorem hl_tab {t e : TypeId} {m g : Nat} {i i' : Nat} {v : Nat} {vs : List Nat} {w0 : World} {ty' : TypeId} {pos' : String} {aft' : Array Edge} {d2 : Nat} {k : IntKind} {iz : Int} (hT : TabF g vs w0) (hs : St w0 w) (hd : dst < n) (hd2 : d2 < n) (hu : P.underlying t = some (.array m e)) (hz : ∀ w, (sizeOf e).run P w = .ok 1 w) (ha : ∀ w, (isAgg e).run P w = .ok false w)
    (hi : iz = (i : Int)) (hm : i < m) (hv : vs[i]? = some v) (hii : i' = dst)
    (h : HL P ops Q rest n ((d2, .float .f64 v) :: (dst, .pointer (some (Addr.add ⟨g, 0, none⟩ i))) :: l) w) :
    HL P ops Q (⟨some dst, .indexAddr t (.global g) (.const (.int k iz)), ty, pos, aft, none⟩ :: ⟨some d2, .load e (.tmp i'), ty', pos', aft', none⟩ :: rest) n l w := by
  subst hi hii
  refine hl_val hd (g_index_array hu hz rfl rfl hm) ?_
  refine hl_val hd2 (g_load ha (p := Addr.add ⟨g, 0, none⟩ i) (by simp [evl, List.lookup]) ((hT.st hs).2 i v hv)) h
end

section
variable {P : Program} {Q : Exit → Act → World → Prop} {n : Nat} {l : List (Nat × Value)} {w : World}
/-- The part behind is known already. -/
theorem hw_seq_t {x T : Code} {C : List (Nat × Value) → World → Prop} (hT : ∀ l' w', C l' w' → HW P T Q n l' w')
    (h : ∀ K : Act → World → Prop, (∀ l' w', C l' w' → ∀ a, Has n l' a → K a w') → HW P x (Exit.then K Q) n l w) : HW P (Code.seq x T) Q n l w :=
  hw_seq fun K hK => h K fun l' w' hc a ha => hK l' w' (hT l' w' hc) a ha
theorem hq_C {C : List (Nat × Value) → World → Prop} {K : Act → World → Prop} {Q' : Exit → Act → World → Prop} (hK : ∀ l' w', C l' w' → ∀ a, Has n l' a → K a w') (h : C l w) : HQ (Exit.then K Q') .normal n l w := by
  unfold HQ; exact fun a ha => hK l w h a ha
theorem sub3 {i j k : Nat} {v u t : Value} (h1 : l.lookup i = some v) (h2 : l.lookup j = some u) (h3 : l.lookup k = some t) : subB [(i, v), (j, u), (k, t)] l := by
  intro p hp
  simp only [List.mem_cons, List.not_mem_nil, or_false] at hp
  rcases hp with rfl | rfl | rfl
  · exact h1
  · exact h2
  · exact h3
theorem sub4 {i j k m : Nat} {v u t r : Value} (h1 : l.lookup i = some v) (h2 : l.lookup j = some u) (h3 : l.lookup k = some t) (h4 : l.lookup m = some r) : subB [(i, v), (j, u), (k, t), (m, r)] l := by
  intro p hp
  simp only [List.mem_cons, List.not_mem_nil, or_false] at hp
  rcases hp with rfl | rfl | rfl | rfl
  · exact h1
  · exact h2
  · exact h3
  · exact h4
end

theorem agg_f64 : ∀ w, (isAgg 22).run Tryd.prog w = .ok false w := fun w => by simp [isAgg, run_underlying Tryd.underlying22]
theorem size_f64 : ∀ w, (sizeOf 22).run Tryd.prog w = .ok 1 w := fun w => by kernel_rfl
theorem under_6 : Tryd.prog.underlying 40 = some (.array 6 22) := by kernel_rfl
theorem under_3 : Tryd.prog.underlying 42 = some (.array 3 22) := by kernel_rfl
theorem under_5 : Tryd.prog.underlying 43 = some (.array 5 22) := by kernel_rfl
def sinTab : List Nat := [4460209587652500685, 13716528389658582877, 4523617212962785441, 13774824197404483331, 4575957461383575504, 13818544856648471880]
def cosTab : List Nat := [13666448263388469915, 4477121864728985349, 13732177093698800582, 4537941361668146421, 13787419979223748497, 4586165620538955083]
def tanPTab : List Nat := [13891795985540005688, 4697705128000265693, 13938957415113920886]
def tanQTab : List Nat := [4607182418800017408, 4668746986536789362, 13921796037995576470, 4717478346167605487, 13945871098756094513]

end Go.Proofs.YtgbdplmpojkklaaDoor
