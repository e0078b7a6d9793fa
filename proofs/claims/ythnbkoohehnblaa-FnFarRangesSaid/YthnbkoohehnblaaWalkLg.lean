/-
The machine's logarithm: what its routine gives, up to the bits of a NaN.
-/
import Derived.Test.YthnbkoohehnblaaWalkT
import Derived.Test.YthnbkoohehnblaaFpP
namespace Go.Proofs.Ythnbkoohehnblaa
open Go.RowKit

section
variable {P : Program}
/-- A computation that gives e, up to the bits of a NaN, and leaves memory. -/
def RS (P : Program) (s : Sem Nat) (e : Nat) : Prop := ∀ w0 w, St w0 w → ∃ r w', s.run P w = .ok r w' ∧ E r e ∧ St w0 w'

theorem fa_run {op : BinOp} {f : Nat → Nat → Nat} (hop : arOf op = some f) {x y ex ey : Nat} (hx : E x ex) (hy : E y ey) (w0 w : World) (hs : St w0 w) :
    ∃ r w', (Op.floatArith op .f64 x y).run P w = .ok (.float .f64 r) w' ∧ E r (f ex ey) ∧ St w0 w' := by
  have hc := bits_congr op hx hy
  cases hb : floatBits op .f64 x y with
  | some r =>
    refine ⟨r, w, ?_, .inl (by rw [ar_bits hop, ← hc, hb]; rfl), hs⟩
    unfold floatBits at hb
    cases op <;> simp only at hb <;> first | (cases hop; done) | skip
    all_goals simp [Op.floatArith, hb]
  | none =>
    refine ⟨(Question.nanBits .f64 x y).cut (w.tape w.drawn (.nanBits .f64 x y)), w.drew, ?_, .inr ⟨(nan_cut _ _ _).1, by rw [ar_bits hop, ← hc, hb]; exact nan_cnan, (nan_cut _ _ _).2⟩, hs.drew⟩
    unfold floatBits at hb
    cases op <;> simp only at hb <;> first | (cases hop; done) | skip
    all_goals simp [Op.floatArith, hb, Question.forced]

theorem rs_arith {op : BinOp} {f : Nat → Nat → Nat} (hop : arOf op = some f) {x y ex ey : Nat} (hx : E x ex) (hy : E y ey) : RS P (Extern.MathAsm.arith op x y) (f ex ey) := by
  intro w0 w hs
  obtain ⟨r, w', hr, he, hs'⟩ := fa_run (P := P) hop hx hy w0 w hs
  refine ⟨r, w', ?_, he, hs'⟩
  unfold Extern.MathAsm.arith
  rw [Sem.run_bind, hr]
  rfl
theorem rs_add {x y ex ey : Nat} (hx : E x ex) (hy : E y ey) : RS P (Extern.MathAsm.add x y) (fadd ex ey) := rs_arith rfl hx hy
theorem rs_sub {x y ex ey : Nat} (hx : E x ex) (hy : E y ey) : RS P (Extern.MathAsm.sub x y) (fsub ex ey) := rs_arith rfl hx hy
theorem rs_mul {x y ex ey : Nat} (hx : E x ex) (hy : E y ey) : RS P (Extern.MathAsm.mul x y) (fmul ex ey) := rs_arith rfl hx hy
theorem rs_div {x y ex ey : Nat} (hx : E x ex) (hy : E y ey) : RS P (Extern.MathAsm.div x y) (fdiv ex ey) := rs_arith rfl hx hy

/-- The same for a float value. -/
def RV (P : Program) (s : Sem Value) (e : Nat) : Prop := ∀ w0 w, St w0 w → ∃ r w', s.run P w = .ok (.float .f64 r) w' ∧ E r e ∧ St w0 w'
theorem rv_bind {s : Sem Nat} {k : Nat → Sem Value} {e e' : Nat} (h : RS P s e) (hk : ∀ r, E r e → RV P (k r) e') : RV P (s >>= k) e' := by
  intro w0 w hs
  obtain ⟨r, w1, h1, h2, h3⟩ := h w0 w hs
  obtain ⟨r', w2, h4, h5, h6⟩ := hk r h2 w0 w1 h3
  exact ⟨r', w2, by rw [Sem.run_bind, h1]; exact h4, h5, h6⟩
theorem rv_pos {c : Prop} [Decidable c] {a b : Sem Value} {e : Nat} (h : c) (hb : RV P a e) : RV P (if c then a else b) e := by rw [if_pos h]; exact hb
theorem rv_neg {c : Prop} [Decidable c] {a b : Sem Value} {e : Nat} (h : ¬ c) (hb : RV P b e) : RV P (if c then a else b) e := by rw [if_neg h]; exact hb
theorem rv_pure {r e : Nat} (h : E r e) : RV P (pure (.float .f64 r)) e := fun _ w hs => ⟨r, w, rfl, h, hs⟩
end

theorem rv_log {P : Program} (x : Nat) (h1 : x < 9218868437227405312) (h0 : 0 < x) : RV P (Extern.MathLog.archLog #[.float .f64 x]) (logMain x) := by
  have c1 : (x % 2 ^ 63 == 0) = false := by rw [Nat.mod_eq_of_lt (by omega)]; simp; omega
  have c2 : ¬ (x ≥ 2 ^ 63) := by omega
  have c3 : ¬ (x ≥ Extern.MathAsm.posInf) := by show ¬ (0x7FF0000000000000 ≤ x); omega
  have c1' : ¬ ((x % 2 ^ 63 == 0) = true) := by rw [c1]; decide
  refine rv_neg c1' ?_
  refine rv_neg c2 ?_
  refine rv_neg c3 ?_
  unfold logMain
  refine rv_bind (rs_sub (E.refl _) (E.refl _)) fun k hk => ?_
  refine rv_bind (rs_add (E.refl _) (E.refl _)) fun a1 ha1 => ?_
  refine rv_bind (rs_mul (E.refl _) ha1) fun f1 hf1 => ?_
  refine rv_bind (rs_sub hf1 (E.refl _)) fun f hf => ?_
  refine rv_bind (rs_add (E.refl _) hf) fun a2 ha2 => ?_
  refine rv_bind (rs_div hf ha2) fun s hs => ?_
  refine rv_bind (rs_mul hs hs) fun s2 hs2 => ?_
  refine rv_bind (rs_mul hs2 hs2) fun s4 hs4 => ?_
  refine rv_bind (rs_mul (E.refl _) hs4) fun b1 hb1 => ?_
  refine rv_bind (rs_add hb1 (E.refl _)) fun b2 hb2 => ?_
  refine rv_bind (rs_mul hb2 hs4) fun b3 hb3 => ?_
  refine rv_bind (rs_add hb3 (E.refl _)) fun b4 hb4 => ?_
  refine rv_bind (rs_mul hb4 hs4) fun b5 hb5 => ?_
  refine rv_bind (rs_add hb5 (E.refl _)) fun b6 hb6 => ?_
  refine rv_bind (rs_mul hs2 hb6) fun t1 ht1 => ?_
  refine rv_bind (rs_mul (E.refl _) hs4) fun d1 hd1 => ?_
  refine rv_bind (rs_add hd1 (E.refl _)) fun d2 hd2 => ?_
  refine rv_bind (rs_mul hd2 hs4) fun d3 hd3 => ?_
  refine rv_bind (rs_add hd3 (E.refl _)) fun d4 hd4 => ?_
  refine rv_bind (rs_mul hs4 hd4) fun t2 ht2 => ?_
  refine rv_bind (rs_add ht1 ht2) fun r hr => ?_
  refine rv_bind (rs_mul (E.refl _) hf) fun g1 hg1 => ?_
  refine rv_bind (rs_mul hg1 hf) fun hq hhq => ?_
  refine rv_bind (rs_add hr hhq) fun g2 hg2 => ?_
  refine rv_bind (rs_mul hs hg2) fun g3 hg3 => ?_
  refine rv_bind (rs_mul (E.refl _) hk) fun g4 hg4 => ?_
  refine rv_bind (rs_add hg3 hg4) fun inner hin => ?_
  refine rv_bind (rs_mul hk (E.refl _)) fun g5 hg5 => ?_
  refine rv_bind (rs_sub hhq hin) fun g6 hg6 => ?_
  refine rv_bind (rs_sub hg6 hf) fun g7 hg7 => ?_
  exact rv_bind (rs_sub hg5 hg7) fun z hz => rv_pure hz

theorem rv_log_any {P : Program} {x e : Nat} (h : E x e) (hl : W64 e) : RV P (Extern.MathLog.archLog #[.float .f64 x]) (logF e) := by
  rcases h with rfl | ⟨h1, h2, h3⟩
  · unfold logF
    by_cases c1 : x % 2 ^ 63 = 0
    · rw [if_pos c1]
      have : (x % 2 ^ 63 == 0) = true := by simpa using c1
      exact rv_pos this (rv_pure (E.refl _))
    · rw [if_neg c1]
      have c1' : ¬ ((x % 2 ^ 63 == 0) = true) := by simpa using c1
      by_cases c2 : 2 ^ 63 ≤ x
      · rw [if_pos c2]
        exact rv_neg c1' (rv_pos (show x ≥ 2 ^ 63 from c2) (rv_pure (E.refl _)))
      · rw [if_neg c2]
        by_cases c3 : 0x7FF0000000000000 ≤ x
        · rw [if_pos c3]
          exact rv_neg c1' (rv_neg (show ¬ (x ≥ 2 ^ 63) from c2) (rv_pos (show x ≥ Extern.MathAsm.posInf from c3) (rv_pure (E.refl _))))
        · rw [if_neg c3]
          refine rv_log x (by omega) ?_
          rcases Nat.eq_zero_or_pos x with h0 | h0
          · subst h0; exact absurd rfl c1
          · exact h0
  · -- both are no numbers
    have hx := h1
    rw [nan_of_rung] at hx
    have he := h2
    rw [nan_of_rung] at he
    have hx' := of_decide_eq_true hx
    have he' := of_decide_eq_true he
    have ne : nan (logF e) = true := by
      unfold logF
      rw [if_neg (by omega)]
      by_cases c2 : 2 ^ 63 ≤ e
      · rw [if_pos c2]; exact nan_cnan
      · rw [if_neg c2, if_pos (by omega)]; exact h2
    have c1' : ¬ ((x % 2 ^ 63 == 0) = true) := by simp; omega
    by_cases c2 : x ≥ 2 ^ 63
    · exact rv_neg c1' (rv_pos c2 (rv_pure (.inr ⟨nan_cnan, ne, by decide⟩)))
    · exact rv_neg c1' (rv_neg c2 (rv_pos (show x ≥ Extern.MathAsm.posInf by show 0x7FF0000000000000 ≤ x; omega) (rv_pure (.inr ⟨h1, ne, h3⟩))))

theorem ext_log (x0 e0 : Nat) (h0 : E x0 e0) (hl : W64 e0) (w0 w : World) (hs : St w0 w) : ∃ r w', (callFunc 43 #[.float .f64 x0]).run Try.prog w = .ok (.value (.float .f64 r)) w' ∧ E r (logF e0) ∧ St w0 w' := by
  obtain ⟨r, w', h1, h2, h3⟩ := rv_log_any (P := Try.prog) h0 hl w0 w hs
  refine ⟨r, w', ?_, h2, h3⟩
  rw [run_callFunc_extern Try.func43 (by kernel_rfl) (by kernel_rfl) (by kernel_rfl) (e := Extern.MathLog.archLog) (by kernel_rfl), h1]
  rfl

set_option maxHeartbeats 400000 in
theorem c_log (x0 e0 : Nat) (h0 : E x0 e0) (hl : W64 e0) (w0 w : World) (hs : St w0 w) : Calls Try.prog 37 #[.float .f64 x0] w (RF (logF e0) w0) := by
  obtain ⟨r, w', hrun, hr, hs'⟩ := ext_log x0 e0 h0 hl w0 w hs
  go_enter Try.func37, Try.ntmps37
  go_wp2
  go_ret
  exact ⟨_, rfl, hr, hs'⟩

end Go.Proofs.Ythnbkoohehnblaa
