/-
Xatan at Tan's exact function; Asin, Acos and Atan of computed sines, cosines and tangents; FnArcBack's plain law. No program in sight.
-/
import Derived.Test.YtgbdplmpojkklaaDoorQT
import Derived.Test.YtgbdplmpojkklaaDoorFpV
namespace Go.Proofs.YtgbdplmpojkklaaDoor

-- POLYNOMIALS OF QUOTIENTS
def ppow (h : List Rat) : Nat → List Rat
  | 0 => [1]
  | n + 1 => pmul h (ppow h n)
theorem pev_pow (h : List Rat) (x : Rat) (n : Nat) : pev (ppow h n) x = pev h x ^ n := by
  induction n with
  | zero => simp only [ppow, pev, Rat.pow_zero]; grind
  | succ n ih => simp only [ppow, pev_mul, ih, Rat.pow_succ]; grind
/-- The numerator of a polynomial at g/h. -/
def hom (g h : List Rat) : List Rat → List Rat
  | [] => []
  | c :: cs => padd (psc c (ppow h cs.length)) (pmul g (hom g h cs))
theorem pev_hom (g h : List Rat) (x y : Rat) (hy : y * pev h x = pev g x) (cs : List Rat) : pev h x * pev (hom g h cs) x = pev h x ^ cs.length * pev cs y := by
  induction cs with
  | nil => simp [hom, pev]
  | cons c cs ih =>
    simp only [hom, pev_add, pev_sc, pev_mul, pev_pow, pev, List.length_cons, Rat.pow_succ]
    rw [← hy]
    generalize pev h x ^ cs.length = P at *
    generalize pev h x = H at *
    generalize pev (hom g h cs) x = a at *
    generalize pev cs y = b at *
    have e : H * (c * P + y * H * a) = c * P * H + y * H * (H * a) := by grind
    rw [e, ih]; grind

def pnl : List Rat := [(2281714237077063 / 35184372088832 : Rat), (8647380534934053 / 70368744177664 : Rat), (5278258023629427 / 70368744177664 : Rat), (2273971201753149 / 140737488355328 : Rat), (1970461881518437 / 2251799813685248 : Rat)]
def qnl : List Rat := [(1711285677807803 / 8796093022208 : Rat), (4269539107284213 / 8796093022208 : Rat), (7615324151266875 / 17592186044416 : Rat), (5806371718625829 / 35184372088832 : Rat), (1749258957297679 / 70368744177664 : Rat), 1]
/-- Xatan's quotient and Xatan. -/
def rA (y : Rat) : Rat := y * pev pnl y / pev qnl y
def fA (t : Rat) : Rat := t - t * rA (t * t)
theorem fA_neg (t : Rat) : fA (-t) = -fA t := by
  unfold fA
  rw [show -t * -t = t * t by grind]
  grind
/-- Tan's quotient and Tan. -/
def rT (X : Rat) : Rat := X * pT X / qD X
def fT (w : Rat) : Rat := w + w * rT (w * w)

def daL : List Rat := psc (-(1 / 2 ^ 26)) qdl
def uaL : List Rat := psc (-(1 / 2 ^ 26)) (padd qdl (pmul [0, 1] ptl))
def waL : List Rat := padd qnl (psc (-1) (pmul [0, 1] pnl))
theorem daL_eq (X : Rat) : pev daL X = -(1 / 2 ^ 26) * qD X := by unfold daL; rw [pev_sc, qdl_eq]
theorem uaL_eq (X : Rat) : pev uaL X = -(1 / 2 ^ 26) * (qD X + X * pT X) := by
  unfold uaL; rw [pev_sc, pev_add, pev_mul, qdl_eq, ptl_eq]; simp only [pev]; grind
theorem waL_eq (y : Rat) : pev waL y = pev qnl y - y * pev pnl y := by
  unfold waL; rw [pev_add, pev_sc, pev_mul]; simp only [pev]; grind
theorem pev_pos {y : Rat} (h : 0 ≤ y) (p : List Rat) (hp : ∀ c ∈ p, 0 ≤ c) : 0 ≤ pev p y := by
  induction p with
  | nil => simp [pev]
  | cons c p ih =>
    simp only [pev]
    have h1 := ih (fun d hd => hp d (List.mem_cons_of_mem _ hd))
    have h2 := hp c List.mem_cons_self
    have h3 := Rat.mul_nonneg h h1
    grind
theorem qnl_pos {y : Rat} (h : 0 ≤ y) : 194 ≤ pev qnl y := by
  have h1 := pev_pos h (padd qnl [-194]) (by decide +kernel)
  rw [pev_add] at h1
  simp only [pev] at h1
  generalize pev qnl y = Q at *
  grind
theorem da_pos {X : Rat} (h0 : 0 ≤ X) (h1 : X ≤ 6172 / 10000) : 57 / 100 ≤ pev daL X := by
  have := qD_bound h0 h1
  rw [daL_eq]
  generalize qD X = D at *
  have : (57 / 100 : Rat) ≤ 1 / 2 ^ 26 * 38900000 := by decide +kernel
  have e : (1 / 2 ^ 26 : Rat) = 1 / 67108864 := by decide +kernel
  rw [e] at *
  grind
/-- Tan's ratio. -/
theorem uda {X : Rat} (h0 : 0 ≤ X) (h1 : X ≤ 6172 / 10000) : pev uaL X = (1 + rT X) * pev daL X := by
  have := qD_bound h0 h1
  rw [daL_eq, uaL_eq]
  unfold rT
  generalize pT X = p at *
  generalize qD X = D at *
  generalize -(1 / 2 ^ 26 : Rat) = k at *
  have : D ≠ 0 := by grind
  grind

theorem rsq_nonneg (x : Rat) : 0 ≤ x * x := by
  rcases Rat.le_total (a := 0) (b := x) with h | h
  · exact Rat.mul_nonneg h h
  · have := Rat.mul_nonneg (show 0 ≤ -x by grind) (show 0 ≤ -x by grind)
    grind

-- UP TO 0.59
def g1 : List Rat := pmul [0, 1] (pmul uaL uaL)
def h1 : List Rat := pmul daL daL
def n1 : List Rat := padd (pmul uaL (hom g1 h1 waL)) (psc (-1) (pmul daL (hom g1 h1 qnl)))
def m1 : List Rat := pmul daL (hom g1 h1 qnl)
theorem n1_bound {X : Rat} (h0 : 0 ≤ X) (h1 : X ≤ 3481 / 10000) : -(1 / 2 ^ 48) ≤ pev n1 X ∧ pev n1 X ≤ 1 / 2 ^ 48 :=
  pieces_bound (h := 3481 / 80000) 4 (by decide +kernel) h0 (by rw [show (2 : Rat) * ((4 : Nat) : Rat) * (3481 / 80000) = 3481 / 10000 by decide +kernel]; exact h1) (by decide)
theorem m1_bound {X : Rat} (h0 : 0 ≤ X) (h1 : X ≤ 3481 / 10000) : -8 ≤ pev (padd m1 [-12]) X ∧ pev (padd m1 [-12]) X ≤ 8 :=
  pieces_bound (h := 3481 / 80000) 4 (by decide +kernel) h0 (by rw [show (2 : Rat) * ((4 : Nat) : Rat) * (3481 / 80000) = 3481 / 10000 by decide +kernel]; exact h1) (by decide)

theorem sq_le_sq {a b : Rat} (h0 : 0 ≤ a) (h : a ≤ b) : a * a ≤ b * b := by
  have m1 := Rat.mul_le_mul_of_nonneg_right h h0
  have m2 := Rat.mul_le_mul_of_nonneg_left h (show 0 ≤ b by grind)
  grind
theorem abs_div {v k E m ε : Rat} (hm : m ≤ k) (hE : E ≤ m * ε) (hε : 0 ≤ ε) (h0 : 0 < m) (h : -E ≤ v * k ∧ v * k ≤ E) : -ε ≤ v ∧ v ≤ ε := by
  have hk := Rat.mul_nonneg hε (show 0 ≤ k - m by grind)
  constructor
  · rcases Rat.le_total (a := -ε) (b := v) with h1 | h1
    · exact h1
    · have h2 := Rat.mul_nonneg (show 0 ≤ -ε - v by grind) (show 0 ≤ k - m by grind)
      have h3 : 0 ≤ m * (ε + v) := by grind
      have h4 : 0 ≤ ε + v := by
        refine Rat.le_of_mul_le_mul_left (c := m) ?_ h0
        rw [Rat.mul_zero]; exact h3
      grind
  · rcases Rat.le_total (a := v) (b := ε) with h1 | h1
    · exact h1
    · have h2 := Rat.mul_nonneg (show 0 ≤ v - ε by grind) (show 0 ≤ k - m by grind)
      have h3 : 0 ≤ m * (ε - v) := by grind
      have h4 : 0 ≤ ε - v := by
        refine Rat.le_of_mul_le_mul_left (c := m) ?_ h0
        rw [Rat.mul_zero]; exact h3
      grind
theorem quot_hom {W Q H P a b : Rat} (hQ : 0 < Q) (hH : 0 < H) (ha : H * a = P * W) (hb : H * b = P * Q) : W / Q * b = a := by
  have h1 : W = W / Q * Q := by grind
  generalize W / Q = k at *
  have h3 : H * (k * b) = H * a := by rw [ha, h1]; grind
  clear ha hb h1
  have hne : H ≠ 0 := by grind
  grind
theorem R1_alg {w u d W Q H P a b T : Rat} (hQ : 0 < Q) (hH : 0 < H) (ha : H * a = P * W) (hb : H * b = P * Q) (hT : T * d = w * u) (hm : 4 ≤ d * b) (hn : -(1 / 2 ^ 48) ≤ u * a - d * b ∧ u * a - d * b ≤ 1 / 2 ^ 48) (hw : 0 ≤ w) (hw1 : w ≤ 1) :
    -(1 / 2 ^ 50) ≤ T * (W / Q) - w ∧ T * (W / Q) - w ≤ 1 / 2 ^ 50 := by
  have e1 := quot_hom hQ hH ha hb
  have e2 : (T * (W / Q) - w) * (d * b) = w * (u * a - d * b) := by
    generalize W / Q = k at *
    have : T * k * (d * b) = (T * d) * (k * b) := by grind
    have h2 : (T * k - w) * (d * b) = T * k * (d * b) - w * (d * b) := by grind
    rw [h2, this, hT, e1]; grind
  have m1 := prod_abs (show -1 ≤ w ∧ w ≤ 1 by constructor <;> grind) hn
  rw [← e2] at m1
  exact abs_div hm (by decide +kernel) (by decide +kernel) (by decide) m1
theorem R2_alg {g h W Q H P a b p v : Rat} (hQ : 0 < Q) (hH : 0 < H) (ha : H * a = P * W) (hb : H * b = P * Q) (hp : p * h = g) (hm : 500 ≤ h * b) (hn : -(1 / 2 ^ 47) ≤ g * a - v * (h * b) ∧ g * a - v * (h * b) ≤ 1 / 2 ^ 47) :
    -(1 / 2 ^ 55) ≤ p * (W / Q) - v ∧ p * (W / Q) - v ≤ 1 / 2 ^ 55 := by
  have e1 := quot_hom hQ hH ha hb
  have e2 : (p * (W / Q) - v) * (h * b) = g * a - v * (h * b) := by
    generalize W / Q = k at *
    have : p * k * (h * b) = (p * h) * (k * b) := by grind
    have h2 : (p * k - v) * (h * b) = p * k * (h * b) - v * (h * b) := by grind
    rw [h2, this, hp, e1]
  rw [← e2] at hn
  exact abs_div hm (by decide +kernel) (by decide +kernel) (by decide) hn
theorem fA_eq {t y : Rat} (hy : y = t * t) : fA t = t * (pev waL y / pev qnl y) ∧ 0 < pev qnl y := by
  have h0 : 0 ≤ y := by rw [hy]; exact rsq_nonneg t
  have hq := qnl_pos h0
  refine ⟨?_, by grind⟩
  unfold fA rA
  rw [← hy, waL_eq]
  generalize pev qnl y = Q at *
  generalize pev pnl y = p at *
  have : Q ≠ 0 := by grind
  grind
theorem R1 {w : Rat} (h0 : 0 ≤ w) (hw : w ≤ 59 / 100) : -(1 / 2 ^ 50) ≤ fA (fT w) - w ∧ fA (fT w) - w ≤ 1 / 2 ^ 50 := by
  have hX0 : 0 ≤ w * w := rsq_nonneg w
  have hX1 : w * w ≤ 3481 / 10000 := by
    have := sq_le_sq h0 hw
    rw [show (59 / 100 : Rat) * (59 / 100) = 3481 / 10000 by decide +kernel] at this
    exact this
  have hX2 : w * w ≤ 6172 / 10000 := Rat.le_trans hX1 (by decide +kernel)
  have hn := n1_bound hX0 hX1
  have hm := m1_bound hX0 hX1
  have hd := da_pos hX0 hX2
  have hu := uda hX0 hX2
  unfold n1 at hn
  rw [pev_add, pev_sc, pev_mul, pev_mul] at hn
  rw [pev_add] at hm
  unfold m1 at hm
  rw [pev_mul] at hm
  simp only [pev] at hm
  have hT : fT w * pev daL (w * w) = w * pev uaL (w * w) := by
    rw [hu]; unfold fT
    generalize rT (w * w) = r
    generalize pev daL (w * w) = d
    grind
  have hh : pev h1 (w * w) = pev daL (w * w) * pev daL (w * w) := by unfold h1; rw [pev_mul]
  have hg : pev g1 (w * w) = (w * w) * (pev uaL (w * w) * pev uaL (w * w)) := by
    unfold g1; rw [pev_mul, pev_mul]; simp only [pev]; grind
  have hy : fT w * fT w * pev h1 (w * w) = pev g1 (w * w) := by
    rw [hh, hg]
    have e : fT w * fT w * (pev daL (w * w) * pev daL (w * w)) = (fT w * pev daL (w * w)) * (fT w * pev daL (w * w)) := by
      generalize fT w = t; generalize pev daL (w * w) = d; grind
    rw [e, hT]
    generalize pev uaL (w * w) = u; grind
  have ha := pev_hom g1 h1 (w * w) _ hy waL
  have hb := pev_hom g1 h1 (w * w) _ hy qnl
  obtain ⟨ef, hQ⟩ := fA_eq (t := fT w) rfl
  have hH : 0 < pev h1 (w * w) := by
    rw [hh]; exact Rat.mul_pos (by grind) (by grind)
  rw [show waL.length = 6 by decide +kernel] at ha
  rw [show qnl.length = 6 by decide +kernel] at hb
  rw [ef]
  refine R1_alg hQ hH ha hb hT ?_ ?_ h0 (by grind)
  · generalize pev daL (w * w) * pev (hom g1 h1 qnl) (w * w) = k at *
    clear hn ha hb ef hy hg hh hT hu
    grind
  · generalize pev uaL (w * w) * pev (hom g1 h1 waL) (w * w) = k at *
    generalize pev daL (w * w) * pev (hom g1 h1 qnl) (w * w) = k2 at *
    clear hm ha hb ef hy hg hh hT hu
    constructor <;> grind

end Go.Proofs.YtgbdplmpojkklaaDoor

namespace Go.Proofs.YtgbdplmpojkklaaDoor

-- FROM 0.57 TO 0.786
def upL : List Rat → List Rat
  | [] => []
  | c :: cs => c :: 0 :: upL cs
theorem pev_up (p : List Rat) (x : Rat) : pev (upL p) x = pev p (x * x) := by
  induction p with
  | nil => rfl
  | cons c p ih => simp only [upL, pev, ih]; grind
/-- Pi/4, as it is added. -/
def qq : Rat := (127438138015862315638027235646471 / 162259276829213363391578010288128 : Rat)
def dzL : List Rat := upL daL
def uzL : List Rat := 0 :: upL uaL
def g2 : List Rat := padd dzL (psc (-1) uzL)
def h2 : List Rat := padd dzL uzL
def n2 : List Rat := psh (57 / 100) (padd (pmul g2 (hom (pmul g2 g2) (pmul h2 h2) waL)) (psc (-1) (pmul [qq, -1] (pmul h2 (hom (pmul g2 g2) (pmul h2 h2) qnl)))))
def m2 : List Rat := psh (57 / 100) (pmul h2 (hom (pmul g2 g2) (pmul h2 h2) qnl))
theorem n2_bound {X : Rat} (h0 : 0 ≤ X) (h1 : X ≤ 216 / 1000) : -(1 / 2 ^ 47) ≤ pev n2 X ∧ pev n2 X ≤ 1 / 2 ^ 47 :=
  pieces_bound (h := 54 / 1000) 2 (by decide +kernel) h0 (by rw [show (2 : Rat) * ((2 : Nat) : Rat) * (54 / 1000) = 216 / 1000 by decide +kernel]; exact h1) (by decide)
theorem m2_bound {X : Rat} (h0 : 0 ≤ X) (h1 : X ≤ 216 / 1000) : -400 ≤ pev (padd m2 [-900]) X ∧ pev (padd m2 [-900]) X ≤ 400 :=
  pieces_bound (h := 54 / 1000) 2 (by decide +kernel) h0 (by rw [show (2 : Rat) * ((2 : Nat) : Rat) * (54 / 1000) = 216 / 1000 by decide +kernel]; exact h1) (by decide)
theorem R2 {w : Rat} (hw : 57 / 100 ≤ w) (hw1 : w ≤ 7855 / 10000) : 1 + fT w ≠ 0 ∧ -(1 / 2 ^ 55) ≤ fA ((1 - fT w) / (1 + fT w)) - (qq - w) ∧ fA ((1 - fT w) / (1 + fT w)) - (qq - w) ≤ 1 / 2 ^ 55 := by
  have h0 : 0 ≤ w := by grind
  have hX0 : 0 ≤ w * w := rsq_nonneg w
  have hX2 : w * w ≤ 6172 / 10000 := by
    have := sq_le_sq h0 hw1
    exact Rat.le_trans this (by decide +kernel)
  have ew : 57 / 100 + (w - 57 / 100) = w := by grind
  have hn := n2_bound (X := w - 57 / 100) (by grind) (by grind)
  have hm := m2_bound (X := w - 57 / 100) (by grind) (by grind)
  have hu := uda hX0 hX2
  unfold n2 at hn
  rw [pev_sh, ew, pev_add, pev_sc, pev_mul, pev_mul, pev_mul] at hn
  rw [pev_add] at hm
  unfold m2 at hm
  rw [pev_sh, ew, pev_mul] at hm
  simp only [pev] at hm hn
  have hT : fT w * pev daL (w * w) = w * pev uaL (w * w) := by
    rw [hu]; unfold fT
    generalize rT (w * w) = r
    generalize pev daL (w * w) = d
    grind
  have hg : pev g2 w = (1 - fT w) * pev daL (w * w) := by
    unfold g2 dzL uzL; rw [pev_add, pev_sc]; simp only [pev]; rw [pev_up, pev_up, ← hT]
    generalize fT w = t; generalize pev daL (w * w) = d; grind
  have hh : pev h2 w = (1 + fT w) * pev daL (w * w) := by
    unfold h2 dzL uzL; rw [pev_add]; simp only [pev]; rw [pev_up, pev_up, ← hT]
    generalize fT w = t; generalize pev daL (w * w) = d; grind
  have hm2 : 500 ≤ pev h2 w * pev (hom (pmul g2 g2) (pmul h2 h2) qnl) w := by
    generalize pev h2 w * pev (hom (pmul g2 g2) (pmul h2 h2) qnl) w = k at *
    clear hn hT hg hh hu
    grind
  have hne : pev h2 w ≠ 0 := by
    intro h
    rw [h, Rat.zero_mul] at hm2
    exact absurd hm2 (by decide +kernel)
  have hne1 : 1 + fT w ≠ 0 := by
    intro h
    rw [h, Rat.zero_mul] at hh
    exact hne hh
  refine ⟨hne1, ?_⟩
  have hp : (1 - fT w) / (1 + fT w) * pev h2 w = pev g2 w := by
    rw [hg, hh]
    clear hn hm hm2 hg hh hT hu hne
    generalize fT w = t at *
    generalize pev daL (w * w) = d at *
    grind
  generalize (1 - fT w) / (1 + fT w) = p at *
  have hy : p * p * pev (pmul h2 h2) w = pev (pmul g2 g2) w := by
    rw [pev_mul, pev_mul, ← hp]
    generalize pev h2 w = h; grind
  have ha := pev_hom (pmul g2 g2) (pmul h2 h2) w _ hy waL
  have hb := pev_hom (pmul g2 g2) (pmul h2 h2) w _ hy qnl
  obtain ⟨ef, hQ⟩ := fA_eq (t := p) rfl
  have hH : 0 < pev (pmul h2 h2) w := by
    rw [pev_mul]
    have := rsq_nonneg (pev h2 w)
    generalize pev h2 w = h at *
    have : h * h ≠ 0 := by
      intro hz
      rcases Rat.mul_eq_zero.1 hz with h1 | h1 <;> exact hne h1
    grind
  rw [show waL.length = 6 by decide +kernel] at ha
  rw [show qnl.length = 6 by decide +kernel] at hb
  rw [ef]
  refine R2_alg hQ hH ha hb hp hm2 ?_
  generalize pev g2 w * pev (hom (pmul g2 g2) (pmul h2 h2) waL) w = k at *
  generalize pev h2 w * pev (hom (pmul g2 g2) (pmul h2 h2) qnl) w = k2 at *
  clear hm ha hb ef hy hg hh hT hu hm2
  generalize qq = Q4 at *
  constructor <;> grind

end Go.Proofs.YtgbdplmpojkklaaDoor

namespace Go.Proofs.YtgbdplmpojkklaaDoor

/-- How fast a polynomial changes on [-h, h]. -/
def plip (h : Rat) : List Rat → Rat
  | [] => 0
  | _ :: cs => pab h cs + h * plip h cs
theorem plip_bound {h a b δ : Rat} (ha : -h ≤ a ∧ a ≤ h) (hb : -h ≤ b ∧ b ≤ h) (hd : -δ ≤ a - b ∧ a - b ≤ δ) (p : List Rat) : -(plip h p * δ) ≤ pev p a - pev p b ∧ pev p a - pev p b ≤ plip h p * δ := by
  induction p with
  | nil => simp only [plip, pev]; constructor <;> grind
  | cons c p ih =>
    have m1 := prod_abs hd (pab_bound ha p)
    have m2 := prod_abs hb ih
    simp only [plip, pev]
    generalize pev p a = A at *
    generalize pev p b = B at *
    generalize pab h p = P at *
    generalize plip h p = L at *
    have e : c + a * A - (c + b * B) = (a - b) * A + b * (A - B) := by grind
    rw [e]
    constructor <;> grind
theorem quot_lip {na nb da db L1 L2 R m δ K : Rat} (hn : -(L1 * δ) ≤ na - nb ∧ na - nb ≤ L1 * δ) (hd : -(L2 * δ) ≤ da - db ∧ da - db ≤ L2 * δ) (hR : -R ≤ nb / db ∧ nb / db ≤ R) (h0 : 0 < m) (ha : m ≤ da) (hb : m ≤ db) (hδ : 0 ≤ δ) (hK : L1 + R * L2 ≤ m * K) (hK0 : 0 ≤ K) :
    -(K * δ) ≤ na / da - nb / db ∧ na / da - nb / db ≤ K * δ := by
  have e1 : na / da * da = na := by have : da ≠ 0 := by grind
                                    grind
  have e2 : nb / db * db = nb := by have : db ≠ 0 := by grind
                                    grind
  generalize na / da = x at *
  generalize nb / db = y at *
  have e3 : (x - y) * da = (na - nb) - y * (da - db) := by grind
  have m1 := prod_abs hR hd
  have m2 := Rat.mul_le_mul_of_nonneg_right hK hδ
  refine abs_div (k := da) (m := m) (E := (L1 + R * L2) * δ) ha (by grind) (Rat.mul_nonneg hK0 hδ) h0 ?_
  rw [e3]
  constructor <;> grind

-- TAN
theorem rT_bd {X : Rat} (h0 : 0 ≤ X) (h1 : X ≤ 6172 / 10000) : -(3 / 10) ≤ X * pT X / -qD X ∧ X * pT X / -qD X ≤ 3 / 10 := by
  have bT := pT_bound h0 h1
  have bn := prod_abs (show -(6172 / 10000) ≤ X ∧ X ≤ 6172 / 10000 from ⟨Rat.le_trans (by decide +kernel) h0, h1⟩) bT
  exact div_bd bn (show (0 : Rat) < 38900000 by decide +kernel) (qD_bound h0 h1) (R := 3 / 10) (by decide +kernel) (by decide +kernel)
theorem rT_eq {X : Rat} (h0 : 0 ≤ X) (h1 : X ≤ 6172 / 10000) : rT X = -(X * pT X / -qD X) := by
  have := qD_bound h0 h1
  unfold rT
  generalize X * pT X = n at *
  generalize qD X = D at *
  have : D ≠ 0 := by grind
  grind
theorem npt_eq (X : Rat) : pev (pmul [0, 1] ptl) X = X * pT X := by rw [pev_mul, ptl_eq]; simp only [pev]; grind
theorem nqd_eq (X : Rat) : pev (psc (-1) qdl) X = -qD X := by rw [pev_sc, qdl_eq]; grind
theorem rT_lip {a b δ : Rat} (ha0 : 0 ≤ a) (ha : a ≤ 6172 / 10000) (hb0 : 0 ≤ b) (hb : b ≤ 6172 / 10000) (hd : -δ ≤ a - b ∧ a - b ≤ δ) (hδ : 0 ≤ δ) : -(1 * δ) ≤ rT a - rT b ∧ rT a - rT b ≤ 1 * δ := by
  have ra : -(6172 / 10000 : Rat) ≤ a ∧ a ≤ 6172 / 10000 := ⟨Rat.le_trans (by decide +kernel) ha0, ha⟩
  have rb : -(6172 / 10000 : Rat) ≤ b ∧ b ≤ 6172 / 10000 := ⟨Rat.le_trans (by decide +kernel) hb0, hb⟩
  have l1 := plip_bound ra rb hd (pmul [0, 1] ptl)
  have l2 := plip_bound ra rb hd (psc (-1) qdl)
  rw [npt_eq, npt_eq] at l1
  rw [nqd_eq, nqd_eq] at l2
  have h := quot_lip l1 l2 (rT_bd hb0 hb) (show (0 : Rat) < 38900000 by decide +kernel) (qD_bound ha0 ha) (qD_bound hb0 hb) hδ (K := 1) (by decide +kernel) (by decide +kernel)
  rw [rT_eq ha0 ha, rT_eq hb0 hb]
  generalize a * pT a / -qD a = x at *
  generalize b * pT b / -qD b = y at *
  clear l1 l2
  constructor <;> grind
/-- Tan's ratio against a number. -/
theorem rT_cmp {X c : Rat} (h0 : 0 ≤ X) (h1 : X ≤ 6172 / 10000) : (0 ≤ X * pT X - c * qD X → rT X ≤ c) ∧ (X * pT X - c * qD X ≤ 0 → c ≤ rT X) := by
  have hq := qD_bound h0 h1
  have e : (c - rT X) * -qD X = X * pT X - c * qD X := by
    unfold rT
    generalize X * pT X = n at *
    generalize qD X = D at *
    have : D ≠ 0 := by grind
    grind
  rw [← e]
  generalize rT X = r at *
  generalize -qD X = D at *
  clear e
  constructor
  · intro h
    rcases Rat.le_total (a := r) (b := c) with h2 | h2
    · exact h2
    · have := Rat.mul_nonneg (show 0 ≤ r - c by grind) (show 0 ≤ D - 38900000 by grind)
      grind
  · intro h
    rcases Rat.le_total (a := c) (b := r) with h2 | h2
    · exact h2
    · have := Rat.mul_nonneg (show 0 ≤ c - r by grind) (show 0 ≤ D - 38900000 by grind)
      grind
def cmpL (c : Rat) : List Rat := padd (pmul [0, 1] ptl) (psc (-c) qdl)
theorem cmpL_eq (c X : Rat) : pev (cmpL c) X = X * pT X - c * qD X := by
  unfold cmpL; rw [pev_add, npt_eq, pev_sc, qdl_eq]; grind
theorem rT_low {X : Rat} (h0 : 0 ≤ X) (h1 : X ≤ 3249 / 10000) : rT X ≤ 13 / 100 := by
  refine (rT_cmp h0 (Rat.le_trans h1 (by decide +kernel))).1 ?_
  have h := pieces_bound (p := padd (cmpL (13 / 100)) [-3700000]) (e := 3700000) (h := 3249 / 640000) 32 (by decide +kernel) h0 (by rw [show (2 : Rat) * ((32 : Nat) : Rat) * (3249 / 640000) = 3249 / 10000 by decide +kernel]; exact h1) (by decide)
  rw [pev_add, cmpL_eq] at h
  simp only [pev] at h
  generalize X * pT X - 13 / 100 * qD X = v at *
  grind
theorem rT_high {X : Rat} (h0 : 3481 / 10000 ≤ X) (h1 : X ≤ 6172 / 10000) : 13 / 100 ≤ rT X := by
  refine (rT_cmp (Rat.le_trans (by decide +kernel) h0) h1).2 ?_
  have h := pieces_bound (p := psh (3481 / 10000) (padd (cmpL (13 / 100)) [3000000])) (e := 3000000) (h := 2691 / 640000) 32 (x := X - 3481 / 10000) (by decide +kernel) (by grind) (by rw [show (2 : Rat) * ((32 : Nat) : Rat) * (2691 / 640000) = 2691 / 10000 by decide +kernel]; grind) (by decide)
  rw [pev_sh, show 3481 / 10000 + (X - 3481 / 10000) = X by grind, pev_add, cmpL_eq] at h
  simp only [pev] at h
  generalize X * pT X - 13 / 100 * qD X = v at *
  grind
theorem rT_pos {X : Rat} (h0 : 0 ≤ X) (h1 : X ≤ 6172 / 10000) : 0 ≤ rT X ∧ rT X ≤ 3 / 10 := by
  constructor
  · refine (rT_cmp h0 h1).2 ?_
    have h := pieces_bound (p := padd ptl [17500000]) (e := 1000000) (h := 6172 / 320000) 16 (by decide +kernel) h0 (by rw [show (2 : Rat) * ((16 : Nat) : Rat) * (6172 / 320000) = 6172 / 10000 by decide +kernel]; exact h1) (by decide)
    rw [pev_add, ptl_eq] at h
    simp only [pev] at h
    have hp : 0 ≤ -pT X := by
      generalize pT X = v at *
      grind
    have := Rat.mul_nonneg h0 hp
    generalize pT X = p at *
    generalize qD X = D at *
    grind
  · have := rT_bd h0 h1
    rw [rT_eq h0 h1]
    generalize X * pT X / -qD X = v at *
    grind

-- XATAN
theorem rA_bd {y : Rat} (h0 : 0 ≤ y) (h1 : y ≤ 45 / 100) : -(13 / 100) ≤ rA y ∧ rA y ≤ 13 / 100 := by
  have h := pieces_bound (p := padd (padd (psc (13 / 100) qnl) (psc (-1) (pmul [0, 1] pnl))) [-16]) (e := 16) (h := 45 / 6400) 32 (by decide +kernel) h0 (by rw [show (2 : Rat) * ((32 : Nat) : Rat) * (45 / 6400) = 45 / 100 by decide +kernel]; exact h1) (by decide)
  have hq := qnl_pos h0
  have hp := pev_pos h0 (pmul [0, 1] pnl) (by decide +kernel)
  rw [pev_add, pev_add, pev_sc, pev_sc, pev_mul] at h
  rw [pev_mul] at hp
  simp only [pev] at h hp
  unfold rA
  generalize pev qnl y = Q at *
  generalize pev pnl y = p at *
  have e : y * p / Q * Q = y * p := by
    have : Q ≠ 0 := by grind
    grind
  generalize y * p / Q = r at *
  have e2 : (0 + y * (1 + y * 0)) * p = y * p := by grind
  rw [e2] at h hp
  generalize y * p = n at *
  clear e2
  have h3 : 0 ≤ r := by
    rcases Rat.le_total (a := 0) (b := r) with h2 | h2
    · exact h2
    · have := Rat.mul_nonneg (show 0 ≤ -r by grind) (show 0 ≤ Q - 194 by grind)
      grind
  have h4 : r ≤ 13 / 100 := by
    rcases Rat.le_total (a := r) (b := 13 / 100) with h2 | h2
    · exact h2
    · have := Rat.mul_nonneg (show 0 ≤ r - 13 / 100 by grind) (show 0 ≤ Q - 194 by grind)
      grind
  constructor <;> grind
theorem rA_lip {a b δ : Rat} (ha0 : 0 ≤ a) (ha : a ≤ 45 / 100) (hb0 : 0 ≤ b) (hb : b ≤ 45 / 100) (hd : -δ ≤ a - b ∧ a - b ≤ δ) (hδ : 0 ≤ δ) : -(186 / 100 * δ) ≤ rA a - rA b ∧ rA a - rA b ≤ 186 / 100 * δ := by
  have ra : -(45 / 100 : Rat) ≤ a ∧ a ≤ 45 / 100 := ⟨Rat.le_trans (by decide +kernel) ha0, ha⟩
  have rb : -(45 / 100 : Rat) ≤ b ∧ b ≤ 45 / 100 := ⟨Rat.le_trans (by decide +kernel) hb0, hb⟩
  have l1 := plip_bound ra rb hd (pmul [0, 1] pnl)
  have l2 := plip_bound ra rb hd qnl
  have e : ∀ x, pev (pmul [0, 1] pnl) x = x * pev pnl x := by intro x; rw [pev_mul]; simp only [pev]; grind
  rw [e, e] at l1
  have hR := rA_bd hb0 hb
  unfold rA at hR ⊢
  exact quot_lip l1 l2 hR (show (0 : Rat) < 194 by decide +kernel) (qnl_pos ha0) (qnl_pos hb0) hδ (K := 186 / 100) (by decide +kernel) (by decide +kernel)
theorem sq_dif {a b h δ : Rat} (ha : -h ≤ a ∧ a ≤ h) (hb : -h ≤ b ∧ b ≤ h) (hd : -δ ≤ a - b ∧ a - b ≤ δ) : -(2 * h * δ) ≤ a * a - b * b ∧ a * a - b * b ≤ 2 * h * δ := by
  have m := prod_abs (show -(2 * h) ≤ a + b ∧ a + b ≤ 2 * h by constructor <;> grind) hd
  have e : a * a - b * b = (a + b) * (a - b) := by grind
  rw [e]; exact m
theorem sq_45 {a : Rat} (ha : -(67 / 100) ≤ a ∧ a ≤ 67 / 100) : 0 ≤ a * a ∧ a * a ≤ 45 / 100 := by
  refine ⟨rsq_nonneg a, ?_⟩
  have m := prod_abs ha ha
  exact Rat.le_trans m.2 (by decide +kernel)
theorem fA_lip {a b δ : Rat} (ha : -(67 / 100) ≤ a ∧ a ≤ 67 / 100) (hb : -(67 / 100) ≤ b ∧ b ≤ 67 / 100) (hd : -δ ≤ a - b ∧ a - b ≤ δ) : -(28 / 10 * δ) ≤ fA a - fA b ∧ fA a - fA b ≤ 28 / 10 * δ := by
  have h1 := sq_45 ha
  have h2 := sq_45 hb
  have hs := sq_dif ha hb hd
  have hl := rA_lip h1.1 h1.2 h2.1 h2.2 hs (by grind)
  have hr := rA_bd h1.1 h1.2
  unfold fA
  generalize rA (a * a) = x at *
  generalize rA (b * b) = y at *
  have m1 := prod_abs hd (show -(113 / 100) ≤ 1 - x ∧ 1 - x ≤ 113 / 100 by constructor <;> grind)
  have m2 := prod_abs hb hl
  have e : a - a * x - (b - b * y) = (a - b) * (1 - x) - b * (x - y) := by grind
  rw [e]
  clear hl hs h1 h2
  constructor <;> grind

end Go.Proofs.YtgbdplmpojkklaaDoor

namespace Go.Proofs.YtgbdplmpojkklaaDoor
open Ieee

theorem xn_eq (x : Rat) : (x) * ((((((-1970461881518437 / 2251799813685248 : Rat)) * (x) + (-2273971201753149 / 140737488355328 : Rat)) * (x) + (-5278258023629427 / 70368744177664 : Rat)) * (x) + (-8647380534934053 / 70368744177664 : Rat)) * (x) + (-2281714237077063 / 35184372088832 : Rat)) = -(x * pev pnl x) := by unfold pnl; simp only [pev]; grind
theorem xd_eq (x : Rat) : ((((x + (1749258957297679 / 70368744177664 : Rat)) * (x) + (5806371718625829 / 35184372088832 : Rat)) * (x) + (7615324151266875 / 17592186044416 : Rat)) * (x) + (4269539107284213 / 8796093022208 : Rat)) * (x) + (1711285677807803 / 8796093022208 : Rat) = pev qnl x := by unfold qnl; simp only [pev]; grind
theorem neg_quot (a b : Rat) : -a / b = -(a / b) := by grind
theorem bd_neg {r c d : Rat} (h : -c ≤ r ∧ r ≤ c) (hc : c ≤ d) : -d ≤ -r ∧ -r ≤ d := by constructor <;> grind
theorem er_join {v t r c1 c2 E : Rat} (hE : t - c2 ≤ v ∧ v ≤ t + c2) (hl : r - c1 ≤ t ∧ t ≤ r + c1) (hc : c1 + c2 ≤ E) : r - E ≤ v ∧ v ≤ r + E := by constructor <;> grind
theorem er_dif {a b c : Rat} (es : b - c ≤ a ∧ a ≤ b + c) : -c ≤ a - b ∧ a - b ≤ c := by constructor <;> grind
theorem fA_form (x r : Rat) : x - x * r = x * -r + x := by grind
set_option maxRecDepth 10000 in
theorem xa_parts {w : Nat} (hw : In w 0 4601760084848663331) : ∃ n d, xatanZ w = fdiv n d ∧ Er n (-(vq w * pev pnl (vq w))) (13982157290985 / 618970019642690137449562112 : Rat) ∧ In n 13857203686067243788 9223372036854775808 ∧ Er d (pev qnl (vq w)) (192214054996905 / 1237940039285380274899124224 : Rat) ∧ In d 4641049159275471596 4647747596959886388 := by
  obtain ⟨v1, d1⟩ : ∃ v, v = fmul 13829429103926125972 w := ⟨_, rfl⟩
  have i1 : In v1 13824121555851095954 9223372036854775808 := by rw [d1]; exact In_mul (In.const (Fw.of (by decide +kernel))) hw (Fw.of (by decide +kernel)) (Fw.of (by decide +kernel)) (Fw.of (by decide +kernel)) (Fw.of (by decide +kernel)) (Fw.of (by decide +kernel)) (Fw.of (by decide +kernel)) (by decide +kernel) (by decide +kernel) (by decide +kernel) (by decide +kernel) (by decide +kernel) (by decide +kernel) (by decide +kernel) (by decide +kernel)
  have r1 : Er v1 (((-1970461881518437 / 2251799813685248 : Rat)) * (vq w)) (27000042261 / 618970019642690137449562112 : Rat) := by rw [d1]; exact q_mulE (In.const (Fw.of (by decide +kernel))).1 hw.1 (by rw [← d1]; exact i1.1) (Er.const (show vq 13829429103926125972 = (-1970461881518437 / 2251799813685248 : Rat) by decide +kernel)) (Er.self w) (A := (1970461881518437 / 2251799813685248 : Rat)) (Y := (8088464930757411 / 18014398509481984 : Rat)) ((In.const (Fw.of (by decide +kernel))).bd (by decide +kernel) (by decide +kernel)) (hw.bd (by decide +kernel) (by decide +kernel)) (by decide +kernel)
  obtain ⟨v2, d2⟩ : ∃ v, v = fadd v1 13848613196940411002 := ⟨_, rfl⟩
  have i2 : In v2 13848723789113511224 13848613196940411002 := by rw [d2]; exact In_add i1 (In.const (Fw.of (by decide +kernel))) (Fw.of (by decide +kernel)) (Fw.of (by decide +kernel)) (Fw.of (by decide +kernel)) (Fw.of (by decide +kernel)) (by decide +kernel) (by decide +kernel) (Fw.of (by decide +kernel)) (Fw.of (by decide +kernel))
  have r2 : Er v2 (((-1970461881518437 / 2251799813685248 : Rat)) * (vq w) + (-2273971201753149 / 140737488355328 : Rat)) (582168792689 / 309485009821345068724781056 : Rat) := by rw [d2]; exact q_addE i1.1 (In.const (Fw.of (by decide +kernel))).1 (by rw [← d2]; exact i2.1) r1 (Er.const (show vq 13848613196940411002 = (-2273971201753149 / 140737488355328 : Rat) by decide +kernel)) (T := (149073106451408649 / 9007199254740992 : Rat)) (sum_T i1 (In.const (Fw.of (by decide +kernel))) (by decide +kernel) (by decide +kernel)) (by decide +kernel)
  obtain ⟨v3, d3⟩ : ∃ v, v = fmul v2 w := ⟨_, rfl⟩
  have i3 : In v3 13843424783381749022 9223372036854775808 := by rw [d3]; exact In_mul i2 hw (Fw.of (by decide +kernel)) (Fw.of (by decide +kernel)) (Fw.of (by decide +kernel)) (Fw.of (by decide +kernel)) (Fw.of (by decide +kernel)) (Fw.of (by decide +kernel)) (by decide +kernel) (by decide +kernel) (by decide +kernel) (by decide +kernel) (by decide +kernel) (by decide +kernel) (by decide +kernel) (by decide +kernel)
  have r3 : Er v3 ((((-1970461881518437 / 2251799813685248 : Rat)) * (vq w) + (-2273971201753149 / 140737488355328 : Rat)) * (vq w)) (2066904265389 / 1237940039285380274899124224 : Rat) := by rw [d3]; exact q_mulE i2.1 hw.1 (by rw [← d3]; exact i3.1) r2 (Er.self w) (A := (582316822075815 / 35184372088832 : Rat)) (Y := (8088464930757411 / 18014398509481984 : Rat)) (i2.bd (by decide +kernel) (by decide +kernel)) (hw.bd (by decide +kernel) (by decide +kernel)) (by decide +kernel)
  obtain ⟨v4, d4⟩ : ∃ v, v = fadd v3 13858350711815275123 := ⟨_, rfl⟩
  have i4 : In v4 13858873632321499205 13858350711815275123 := by rw [d4]; exact In_add i3 (In.const (Fw.of (by decide +kernel))) (Fw.of (by decide +kernel)) (Fw.of (by decide +kernel)) (Fw.of (by decide +kernel)) (Fw.of (by decide +kernel)) (by decide +kernel) (by decide +kernel) (Fw.of (by decide +kernel)) (Fw.of (by decide +kernel))
  have r4 : Er v4 ((((-1970461881518437 / 2251799813685248 : Rat)) * (vq w) + (-2273971201753149 / 140737488355328 : Rat)) * (vq w) + (-5278258023629427 / 70368744177664 : Rat)) (6698665540755 / 618970019642690137449562112 : Rat) := by rw [d4]; exact q_addE i3.1 (In.const (Fw.of (by decide +kernel))).1 (by rw [← d4]; exact i4.1) r3 (Er.const (show vq 13858350711815275123 = (-5278258023629427 / 70368744177664 : Rat) by decide +kernel)) (T := (46409428238828071 / 562949953421312 : Rat)) (sum_T i3 (In.const (Fw.of (by decide +kernel))) (by decide +kernel) (by decide +kernel)) (by decide +kernel)
  obtain ⟨v5, d5⟩ : ∃ v, v = fmul v4 w := ⟨_, rfl⟩
  have i5 : In v5 13853778312484083651 9223372036854775808 := by rw [d5]; exact In_mul i4 hw (Fw.of (by decide +kernel)) (Fw.of (by decide +kernel)) (Fw.of (by decide +kernel)) (Fw.of (by decide +kernel)) (Fw.of (by decide +kernel)) (Fw.of (by decide +kernel)) (by decide +kernel) (by decide +kernel) (by decide +kernel) (by decide +kernel) (by decide +kernel) (by decide +kernel) (by decide +kernel) (by decide +kernel)
  have r5 : Er v5 (((((-1970461881518437 / 2251799813685248 : Rat)) * (vq w) + (-2273971201753149 / 140737488355328 : Rat)) * (vq w) + (-5278258023629427 / 70368744177664 : Rat)) * (vq w)) (2775690824009 / 309485009821345068724781056 : Rat) := by rw [d5]; exact q_mulE i4.1 hw.1 (by rw [← d5]; exact i5.1) r4 (Er.self w) (A := (5801178529853509 / 70368744177664 : Rat)) (Y := (8088464930757411 / 18014398509481984 : Rat)) (i4.bd (by decide +kernel) (by decide +kernel)) (hw.bd (by decide +kernel) (by decide +kernel)) (by decide +kernel)
  obtain ⟨v6, d6⟩ : ∃ v, v = fadd v5 13861719834326579749 := ⟨_, rfl⟩
  have i6 : In v6 13863202108266435331 13861719834326579749 := by rw [d6]; exact In_add i5 (In.const (Fw.of (by decide +kernel))) (Fw.of (by decide +kernel)) (Fw.of (by decide +kernel)) (Fw.of (by decide +kernel)) (Fw.of (by decide +kernel)) (by decide +kernel) (by decide +kernel) (Fw.of (by decide +kernel)) (Fw.of (by decide +kernel))
  have r6 : Er v6 (((((-1970461881518437 / 2251799813685248 : Rat)) * (vq w) + (-2273971201753149 / 140737488355328 : Rat)) * (vq w) + (-5278258023629427 / 70368744177664 : Rat)) * (vq w) + (-8647380534934053 / 70368744177664 : Rat)) (4134942505471 / 154742504910672534362390528 : Rat) := by rw [d6]; exact q_addE i5.1 (In.const (Fw.of (by decide +kernel))).1 (by rw [← d6]; exact i6.1) r5 (Er.const (show vq 13861719834326579749 = (-8647380534934053 / 70368744177664 : Rat) by decide +kernel)) (T := (22504219389676557 / 140737488355328 : Rat)) (sum_T i5 (In.const (Fw.of (by decide +kernel))) (by decide +kernel) (by decide +kernel)) (by decide +kernel)
  obtain ⟨v7, d7⟩ : ∃ v, v = fmul v6 w := ⟨_, rfl⟩
  have i7 : In v7 13858124651044628083 9223372036854775808 := by rw [d7]; exact In_mul i6 hw (Fw.of (by decide +kernel)) (Fw.of (by decide +kernel)) (Fw.of (by decide +kernel)) (Fw.of (by decide +kernel)) (Fw.of (by decide +kernel)) (Fw.of (by decide +kernel)) (by decide +kernel) (by decide +kernel) (by decide +kernel) (by decide +kernel) (by decide +kernel) (by decide +kernel) (by decide +kernel) (by decide +kernel)
  have r7 : Er v7 ((((((-1970461881518437 / 2251799813685248 : Rat)) * (vq w) + (-2273971201753149 / 140737488355328 : Rat)) * (vq w) + (-5278258023629427 / 70368744177664 : Rat)) * (vq w) + (-8647380534934053 / 70368744177664 : Rat)) * (vq w)) (3090035779923 / 154742504910672534362390528 : Rat) := by rw [d7]; exact q_mulE i6.1 hw.1 (by rw [← d7]; exact i7.1) r6 (Er.self w) (A := (5626054847419139 / 35184372088832 : Rat)) (Y := (8088464930757411 / 18014398509481984 : Rat)) (i6.bd (by decide +kernel) (by decide +kernel)) (hw.bd (by decide +kernel) (by decide +kernel)) (by decide +kernel)
  obtain ⟨v8, d8⟩ : ∃ v, v = fadd v7 13857635882265799822 := ⟨_, rfl⟩
  have i8 : In v8 13862383866282584448 13857635882265799822 := by rw [d8]; exact In_add i7 (In.const (Fw.of (by decide +kernel))) (Fw.of (by decide +kernel)) (Fw.of (by decide +kernel)) (Fw.of (by decide +kernel)) (Fw.of (by decide +kernel)) (by decide +kernel) (by decide +kernel) (Fw.of (by decide +kernel)) (Fw.of (by decide +kernel))
  have r8 : Er v8 ((((((-1970461881518437 / 2251799813685248 : Rat)) * (vq w) + (-2273971201753149 / 140737488355328 : Rat)) * (vq w) + (-5278258023629427 / 70368744177664 : Rat)) * (vq w) + (-8647380534934053 / 70368744177664 : Rat)) * (vq w) + (-2281714237077063 / 35184372088832 : Rat)) (21750402618849 / 618970019642690137449562112 : Rat) := by rw [d8]; exact q_addE i7.1 (In.const (Fw.of (by decide +kernel))).1 (by rw [← d8]; exact i8.1) r7 (Er.const (show vq 13857635882265799822 = (-2281714237077063 / 35184372088832 : Rat) by decide +kernel)) (T := (9615625727136513 / 70368744177664 : Rat)) (sum_T i7 (In.const (Fw.of (by decide +kernel))) (by decide +kernel) (by decide +kernel)) (by decide +kernel)
  obtain ⟨v9, d9⟩ : ∃ v, v = fmul w v8 := ⟨_, rfl⟩
  have i9 : In v9 13857203686067243788 9223372036854775808 := by rw [d9]; exact In_mul hw i8 (Fw.of (by decide +kernel)) (Fw.of (by decide +kernel)) (Fw.of (by decide +kernel)) (Fw.of (by decide +kernel)) (Fw.of (by decide +kernel)) (Fw.of (by decide +kernel)) (by decide +kernel) (by decide +kernel) (by decide +kernel) (by decide +kernel) (by decide +kernel) (by decide +kernel) (by decide +kernel) (by decide +kernel)
  have r9 : Er v9 ((vq w) * ((((((-1970461881518437 / 2251799813685248 : Rat)) * (vq w) + (-2273971201753149 / 140737488355328 : Rat)) * (vq w) + (-5278258023629427 / 70368744177664 : Rat)) * (vq w) + (-8647380534934053 / 70368744177664 : Rat)) * (vq w) + (-2281714237077063 / 35184372088832 : Rat))) (13982157290985 / 618970019642690137449562112 : Rat) := by rw [d9]; exact q_mulE hw.1 i8.1 (by rw [← d9]; exact i9.1) (Er.self w) r8 (A := (8088464930757411 / 18014398509481984 : Rat)) (Y := (37561037996627 / 274877906944 : Rat)) (hw.bd (by decide +kernel) (by decide +kernel)) (i8.bd (by decide +kernel) (by decide +kernel)) (by decide +kernel)
  obtain ⟨v10, d10⟩ : ∃ v, v = fadd w 4627690253511319612 := ⟨_, rfl⟩
  have i10 : In v10 4627690253511319612 4627816635775862697 := by rw [d10]; exact In_add hw (In.const (Fw.of (by decide +kernel))) (Fw.of (by decide +kernel)) (Fw.of (by decide +kernel)) (Fw.of (by decide +kernel)) (Fw.of (by decide +kernel)) (by decide +kernel) (by decide +kernel) (Fw.of (by decide +kernel)) (Fw.of (by decide +kernel))
  have r10 : Er v10 (vq w + (1749258957297679 / 70368744177664 : Rat)) (3478231491081 / 1237940039285380274899124224 : Rat) := by rw [d10]; exact q_addE hw.1 (In.const (Fw.of (by decide +kernel))).1 (by rw [← d10]; exact i10.1) (Er.self w) (Er.const (show vq 4627690253511319612 = (1749258957297679 / 70368744177664 : Rat) by decide +kernel)) (T := (455898757998963235 / 18014398509481984 : Rat)) (sum_T hw (In.const (Fw.of (by decide +kernel))) (by decide +kernel) (by decide +kernel)) (by decide +kernel)
  obtain ⟨v11, d11⟩ : ∃ v, v = fmul v10 w := ⟨_, rfl⟩
  have i11 : In v11 0 4622586447502931353 := by rw [d11]; exact In_mul i10 hw (Fw.of (by decide +kernel)) (Fw.of (by decide +kernel)) (Fw.of (by decide +kernel)) (Fw.of (by decide +kernel)) (Fw.of (by decide +kernel)) (Fw.of (by decide +kernel)) (by decide +kernel) (by decide +kernel) (by decide +kernel) (by decide +kernel) (by decide +kernel) (by decide +kernel) (by decide +kernel) (by decide +kernel)
  have r11 : Er v11 ((vq w + (1749258957297679 / 70368744177664 : Rat)) * (vq w)) (3123451878991 / 1237940039285380274899124224 : Rat) := by rw [d11]; exact q_mulE i10.1 hw.1 (by rw [← d11]; exact i11.1) r10 (Er.self w) (A := (7123418093733801 / 281474976710656 : Rat)) (Y := (8088464930757411 / 18014398509481984 : Rat)) (i10.bd (by decide +kernel) (by decide +kernel)) (hw.bd (by decide +kernel) (by decide +kernel)) (by decide +kernel)
  obtain ⟨v12, d12⟩ : ∃ v, v = fadd v11 4640010388282866213 := ⟨_, rfl⟩
  have i12 : In v12 4640010388282866213 4640410190123377023 := by rw [d12]; exact In_add i11 (In.const (Fw.of (by decide +kernel))) (Fw.of (by decide +kernel)) (Fw.of (by decide +kernel)) (Fw.of (by decide +kernel)) (Fw.of (by decide +kernel)) (by decide +kernel) (by decide +kernel) (Fw.of (by decide +kernel)) (Fw.of (by decide +kernel))
  have r12 : Er v12 ((vq w + (1749258957297679 / 70368744177664 : Rat)) * (vq w) + (5806371718625829 / 35184372088832 : Rat)) (27366317344369 / 1237940039285380274899124224 : Rat) := by rw [d12]; exact q_addE i11.1 (In.const (Fw.of (by decide +kernel))).1 (by rw [← d12]; exact i12.1) r11 (Er.const (show vq 4640010388282866213 = (5806371718625829 / 35184372088832 : Rat) by decide +kernel)) (T := (99298776946186217 / 562949953421312 : Rat)) (sum_T i11 (In.const (Fw.of (by decide +kernel))) (by decide +kernel) (by decide +kernel)) (by decide +kernel)
  obtain ⟨v13, d13⟩ : ∃ v, v = fmul v12 w := ⟨_, rfl⟩
  have i13 : In v13 0 4635273560792974590 := by rw [d13]; exact In_mul i12 hw (Fw.of (by decide +kernel)) (Fw.of (by decide +kernel)) (Fw.of (by decide +kernel)) (Fw.of (by decide +kernel)) (Fw.of (by decide +kernel)) (Fw.of (by decide +kernel)) (by decide +kernel) (by decide +kernel) (by decide +kernel) (by decide +kernel) (by decide +kernel) (by decide +kernel) (by decide +kernel) (by decide +kernel)
  have r13 : Er v13 (((vq w + (1749258957297679 / 70368744177664 : Rat)) * (vq w) + (5806371718625829 / 35184372088832 : Rat)) * (vq w)) (23172523081577 / 1237940039285380274899124224 : Rat) := by rw [d13]; exact q_mulE i12.1 hw.1 (by rw [← d13]; exact i13.1) r12 (Er.self w) (A := (6206173559136639 / 35184372088832 : Rat)) (Y := (8088464930757411 / 18014398509481984 : Rat)) (i12.bd (by decide +kernel) (by decide +kernel)) (hw.bd (by decide +kernel) (by decide +kernel)) (by decide +kernel)
  obtain ⟨v14, d14⟩ : ∃ v, v = fadd v13 4646322940342877755 := ⟨_, rfl⟩
  have i14 : In v14 4646322940342877755 4647715520876627901 := by rw [d14]; exact In_add i13 (In.const (Fw.of (by decide +kernel))) (Fw.of (by decide +kernel)) (Fw.of (by decide +kernel)) (Fw.of (by decide +kernel)) (Fw.of (by decide +kernel)) (by decide +kernel) (by decide +kernel) (Fw.of (by decide +kernel)) (Fw.of (by decide +kernel))
  have r14 : Er v14 (((vq w + (1749258957297679 / 70368744177664 : Rat)) * (vq w) + (5806371718625829 / 35184372088832 : Rat)) * (vq w) + (7615324151266875 / 17592186044416 : Rat)) (11694036200913 / 154742504910672534362390528 : Rat) := by rw [d14]; exact q_addE i13.1 (In.const (Fw.of (by decide +kernel))).1 (by rw [← d14]; exact i14.1) r13 (Er.const (show vq 4646322940342877755 = (7615324151266875 / 17592186044416 : Rat) by decide +kernel)) (T := (18017220230586101 / 35184372088832 : Rat)) (sum_T i13 (In.const (Fw.of (by decide +kernel))) (by decide +kernel) (by decide +kernel)) (by decide +kernel)
  obtain ⟨v15, d15⟩ : ∃ v, v = fmul v14 w := ⟨_, rfl⟩
  have i15 : In v15 0 4642293748447773543 := by rw [d15]; exact In_mul i14 hw (Fw.of (by decide +kernel)) (Fw.of (by decide +kernel)) (Fw.of (by decide +kernel)) (Fw.of (by decide +kernel)) (Fw.of (by decide +kernel)) (Fw.of (by decide +kernel)) (by decide +kernel) (by decide +kernel) (by decide +kernel) (by decide +kernel) (by decide +kernel) (by decide +kernel) (by decide +kernel) (by decide +kernel)
  have r15 : Er v15 ((((vq w + (1749258957297679 / 70368744177664 : Rat)) * (vq w) + (5806371718625829 / 35184372088832 : Rat)) * (vq w) + (7615324151266875 / 17592186044416 : Rat)) * (vq w)) (73605493203731 / 1237940039285380274899124224 : Rat) := by rw [d15]; exact q_mulE i14.1 hw.1 (by rw [← d15]; exact i15.1) r14 (Er.self w) (A := (4504305057646525 / 8796093022208 : Rat)) (Y := (8088464930757411 / 18014398509481984 : Rat)) (i14.bd (by decide +kernel) (by decide +kernel)) (hw.bd (by decide +kernel) (by decide +kernel)) (by decide +kernel)
  obtain ⟨v16, d16⟩ : ∃ v, v = fadd v15 4647246694406179306 := ⟨_, rfl⟩
  have i16 : In v16 4647246694406179306 4649503187897148879 := by rw [d16]; exact In_add i15 (In.const (Fw.of (by decide +kernel))) (Fw.of (by decide +kernel)) (Fw.of (by decide +kernel)) (Fw.of (by decide +kernel)) (Fw.of (by decide +kernel)) (by decide +kernel) (by decide +kernel) (Fw.of (by decide +kernel)) (Fw.of (by decide +kernel))
  have r16 : Er v16 ((((vq w + (1749258957297679 / 70368744177664 : Rat)) * (vq w) + (5806371718625829 / 35184372088832 : Rat)) * (vq w) + (7615324151266875 / 17592186044416 : Rat)) * (vq w) + (4269539107284213 / 8796093022208 : Rat)) (171917556925099 / 1237940039285380274899124224 : Rat) := by rw [d16]; exact q_addE i15.1 (In.const (Fw.of (by decide +kernel))).1 (by rw [← d16]; exact i16.1) r15 (Er.const (show vq 4647246694406179306 = (4269539107284213 / 8796093022208 : Rat) by decide +kernel)) (T := (25167888312670011 / 35184372088832 : Rat)) (sum_T i15 (In.const (Fw.of (by decide +kernel))) (by decide +kernel) (by decide +kernel)) (by decide +kernel)
  obtain ⟨v17, d17⟩ : ∃ v, v = fmul v16 w := ⟨_, rfl⟩
  have i17 : In v17 0 4644357807117805298 := by rw [d17]; exact In_mul i16 hw (Fw.of (by decide +kernel)) (Fw.of (by decide +kernel)) (Fw.of (by decide +kernel)) (Fw.of (by decide +kernel)) (Fw.of (by decide +kernel)) (Fw.of (by decide +kernel)) (by decide +kernel) (by decide +kernel) (by decide +kernel) (by decide +kernel) (by decide +kernel) (by decide +kernel) (by decide +kernel) (by decide +kernel)
  have r17 : Er v17 (((((vq w + (1749258957297679 / 70368744177664 : Rat)) * (vq w) + (5806371718625829 / 35184372088832 : Rat)) * (vq w) + (7615324151266875 / 17592186044416 : Rat)) * (vq w) + (4269539107284213 / 8796093022208 : Rat)) * (vq w)) (15166637458783 / 154742504910672534362390528 : Rat) := by rw [d17]; exact q_mulE i16.1 hw.1 (by rw [← d17]; exact i17.1) r16 (Er.self w) (A := (6291972078167503 / 8796093022208 : Rat)) (Y := (8088464930757411 / 18014398509481984 : Rat)) (i16.bd (by decide +kernel) (by decide +kernel)) (hw.bd (by decide +kernel) (by decide +kernel)) (by decide +kernel)
  obtain ⟨v18, d18⟩ : ∃ v, v = fadd v17 4641049159275471596 := ⟨_, rfl⟩
  have i18 : In v18 4641049159275471596 4647747596959886388 := by rw [d18]; exact In_add i17 (In.const (Fw.of (by decide +kernel))) (Fw.of (by decide +kernel)) (Fw.of (by decide +kernel)) (Fw.of (by decide +kernel)) (Fw.of (by decide +kernel)) (by decide +kernel) (by decide +kernel) (Fw.of (by decide +kernel)) (Fw.of (by decide +kernel))
  have r18 : Er v18 (((((vq w + (1749258957297679 / 70368744177664 : Rat)) * (vq w) + (5806371718625829 / 35184372088832 : Rat)) * (vq w) + (7615324151266875 / 17592186044416 : Rat)) * (vq w) + (4269539107284213 / 8796093022208 : Rat)) * (vq w) + (1711285677807803 / 8796093022208 : Rat)) (192214054996905 / 1237940039285380274899124224 : Rat) := by rw [d18]; exact q_addE i17.1 (In.const (Fw.of (by decide +kernel))).1 (by rw [← d18]; exact i18.1) r17 (Er.const (show vq 4641049159275471596 = (1711285677807803 / 8796093022208 : Rat) by decide +kernel)) (T := (1134095285226253 / 2199023255552 : Rat)) (sum_T i17 (In.const (Fw.of (by decide +kernel))) (by decide +kernel) (by decide +kernel)) (by decide +kernel)
  have e : xatanZ w = fdiv v9 v18 := by subst_vars; rfl
  refine ⟨_, _, e, ?_, i9, ?_, i18⟩
  · rw [← xn_eq]; exact r9
  · rw [← xd_eq]; exact r18

theorem xa_quot {w : Nat} (hw : In w 0 4601760084848663331) : Er (xatanZ w) (-rA (vq w)) (515129431975 / 1237940039285380274899124224 : Rat) ∧ In (xatanZ w) 13822986606840959835 0 := by
  obtain ⟨n, d, e, r1, i1, r2, i2⟩ := xa_parts hw
  have hX := hw.qb (l := 0) (u := 45 / 100) (by decide +kernel) (by decide +kernel)
  obtain ⟨b1, b2⟩ := i2.pos (by decide) (by decide) (by decide)
  have hd : d < INF := Nat.lt_of_le_of_lt b2 (by decide)
  have hd0 : 0 < d := Nat.lt_of_lt_of_le (by decide) b1
  have iq : In (fdiv n d) 13822986606840959835 0 := In_div i1 (c := 4641049159275471596) (d := 4647747596959886388) (by decide) b1 b2 (by decide) (Fw.of (by decide +kernel)) (Fw.of (by decide +kernel)) (Fw.of (by decide +kernel)) (Fw.of (by decide +kernel)) (by decide +kernel) (by decide +kernel) (by decide +kernel) (by decide +kernel)
  have kn := i1.qb (l := -64) (u := 64) (by decide +kernel) (by decide +kernel)
  have kd := i2.qb (l := (1711285677807803 / 8796093022208 : Rat)) (u := 1000) (by decide +kernel) (by decide +kernel)
  have q1 := div_bd kn (show (0 : Rat) < (1711285677807803 / 8796093022208 : Rat) by decide +kernel) kd.1 (R := 33 / 100) (by decide +kernel) (by decide +kernel)
  have hE := q_div i1.1 hd hd0 iq.1 q1.1 q1.2
  have hr := rA_bd hX.1 hX.2
  have hQ := qnl_pos hX.1
  have er : -(vq w * pev pnl (vq w)) / pev qnl (vq w) = -rA (vq w) := neg_quot _ _
  have hl := div_lin r1 r2 (show (0 : Rat) < (1711285677807803 / 8796093022208 : Rat) by decide +kernel) kd.1 (by grind) (R := 33 / 100) (by
    rw [er]; exact bd_neg hr (by decide +kernel)) (by decide +kernel) (by decide +kernel) (by decide +kernel)
  rw [er] at hl
  rw [e]
  exact ⟨er_join hE hl (by decide +kernel), iq⟩

theorem xa_lin {U v x y e δ K c : Rat} (h : U * -x - e ≤ v ∧ v ≤ U * -x + e) (hU : -c ≤ U ∧ U ≤ c) (hl : -(K * δ) ≤ x - y ∧ x - y ≤ K * δ) : U * -y - (e + c * (K * δ)) ≤ v ∧ v ≤ U * -y + (e + c * (K * δ)) := by
  have m := prod_abs hU hl
  constructor <;> grind
set_option maxRecDepth 10000 in
theorem xatan_er {u : Nat} (hu : In u 13827581179180803215 4604209142326027407) : Er (xatanF u) (fA (vq u)) (288007523481 / 618970019642690137449562112 : Rat) ∧ Fw (xatanF u) ∧ Bd (xatanF u) 1 := by
  have hw : In (fmul u u) 0 4601760084848663331 := In_sq hu (Fw.of (by decide +kernel)) (Fw.of (by decide +kernel)) (Fw.of (by decide +kernel)) (by decide +kernel) (by decide +kernel)
  have bu : Bd u (6033922780750991 / 9007199254740992 : Rat) := hu.bd (by decide +kernel) (by decide +kernel)
  have bu2 : Bd u (67 / 100) := hu.bd (by decide +kernel) (by decide +kernel)
  have hs := prod_abs bu bu
  have es := q_mul hu.1 hu.1 hw.1 hs.1 hs.2
  obtain ⟨r1, i1⟩ := xa_quot hw
  obtain ⟨v1, d1⟩ : ∃ v, v = fmul u (xatanZ (fmul u u)) := ⟨_, rfl⟩
  have i2 : In v1 13820502421646790240 4597130384792014432 := by rw [d1]; exact In_mul hu i1 (Fw.of (by decide +kernel)) (Fw.of (by decide +kernel)) (Fw.of (by decide +kernel)) (Fw.of (by decide +kernel)) (Fw.of (by decide +kernel)) (Fw.of (by decide +kernel)) (by decide +kernel) (by decide +kernel) (by decide +kernel) (by decide +kernel) (by decide +kernel) (by decide +kernel) (by decide +kernel) (by decide +kernel)
  have r2 : Er v1 (vq u * -rA (vq (fmul u u))) (46933552951 / 154742504910672534362390528 : Rat) := by rw [d1]; exact q_mulE hu.1 i1.1 (by rw [← d1]; exact i2.1) (Er.self u) r1 (A := (6033922780750991 / 9007199254740992 : Rat)) (Y := 33 / 100) bu (i1.bd (by decide +kernel) (by decide +kernel)) (by decide +kernel)
  have hX := hw.qb (l := 0) (u := 45 / 100) (by decide +kernel) (by decide +kernel)
  have hY := sq_45 bu2
  have hl := rA_lip hX.1 hX.2 hY.1 hY.2 (δ := (6033922780750991 / 9007199254740992 : Rat) * (6033922780750991 / 9007199254740992 : Rat) * uq + hq) (er_dif es) (by decide +kernel)
  have r3 : Er v1 (vq u * -rA (vq u * vq u)) (452319988837 / 1237940039285380274899124224 : Rat) := Er.weak (xa_lin r2 bu hl) (by decide +kernel)
  obtain ⟨v2, d2⟩ : ∃ v, v = fadd v1 u := ⟨_, rfl⟩
  have i3 : In v2 13829571770306172967 4606199733451397159 := by rw [d2]; exact In_add i2 hu (Fw.of (by decide +kernel)) (Fw.of (by decide +kernel)) (Fw.of (by decide +kernel)) (Fw.of (by decide +kernel)) (by decide +kernel) (by decide +kernel) (Fw.of (by decide +kernel)) (Fw.of (by decide +kernel))
  have r4 : Er v2 (vq u * -rA (vq u * vq u) + vq u) (288007523481 / 618970019642690137449562112 : Rat) := by rw [d2]; exact q_addE i2.1 hu.1 (by rw [← d2]; exact i3.1) r3 (Er.self u) (T := (9 / 10 : Rat)) (sum_T i2 hu (by decide +kernel) (by decide +kernel)) (by decide +kernel)
  have e : xatanF u = v2 := by subst_vars; rfl
  rw [e]
  refine ⟨?_, i3.1, i3.bd (by decide +kernel) (by decide +kernel)⟩
  unfold fA
  rw [fA_form]; exact r4

end Go.Proofs.YtgbdplmpojkklaaDoor

namespace Go.Proofs.YtgbdplmpojkklaaDoor
open Ieee

theorem Fw.pos {t : Nat} (h : t < INF) : Fw t := ⟨false, t, h, (word_false _).symm⟩
theorem mid_alg {t s η : Rat} (h : -η ≤ t - s ∧ t - s ≤ η) (ht : 65 / 100 ≤ t) (hs : 64 / 100 ≤ s) : -(3 / 4 * η) ≤ (t - 1) / (t + 1) - (s - 1) / (s + 1) ∧ (t - 1) / (t + 1) - (s - 1) / (s + 1) ≤ 3 / 4 * η := by
  have e : ((t - 1) / (t + 1) - (s - 1) / (s + 1)) * ((t + 1) * (s + 1)) = 2 * (t - s) := by
    have h1 : t + 1 ≠ 0 := by grind
    have h2 : s + 1 ≠ 0 := by grind
    have e1 : (t - 1) / (t + 1) * (t + 1) = t - 1 := by grind
    have e2 : (s - 1) / (s + 1) * (s + 1) = s - 1 := by grind
    generalize (t - 1) / (t + 1) = x at *
    generalize (s - 1) / (s + 1) = y at *
    have e3 : (x - y) * ((t + 1) * (s + 1)) = x * (t + 1) * (s + 1) - y * (s + 1) * (t + 1) := by grind
    rw [e3, e1, e2]; grind
  have m := Rat.mul_nonneg (show 0 ≤ t + 1 - 165 / 100 by grind) (show 0 ≤ s + 1 - 164 / 100 by grind)
  have hk : 27 / 10 ≤ (t + 1) * (s + 1) := by grind
  refine abs_div (k := (t + 1) * (s + 1)) (m := 27 / 10) (E := 2 * η) hk (by grind) (by grind) (by decide +kernel) ?_
  rw [e]
  constructor <;> grind
theorem mid_rng {s : Rat} (h1 : 64 / 100 ≤ s) (h2 : s ≤ 18 / 10) : -(67 / 100) ≤ (s - 1) / (s + 1) ∧ (s - 1) / (s + 1) ≤ 67 / 100 :=
  div_bd (x := s - 1) (y := s + 1) (A := 8 / 10) (d := 164 / 100) (by constructor <;> grind) (by decide +kernel) (by grind) (by decide +kernel) (by decide +kernel)
theorem mid_lin {v x y z k p m d e : Rat} (h1 : x - 5 * e ≤ v ∧ v ≤ x + 5 * e) (h2 : -(28 / 10 * d) ≤ x - y ∧ x - y ≤ 28 / 10 * d) (h3 : p + v - (18 / 10 * e + e / 100) ≤ z ∧ z ≤ p + v + (18 / 10 * e + e / 100)) (h4 : z + m - (19 / 10 * e + e / 100) ≤ k ∧ k ≤ z + m + (19 / 10 * e + e / 100)) {η : Rat} (hd : d = 2 * e + 3 / 4 * η) (he : 0 ≤ e) :
    (p + m) + y - (15 * e + 21 / 10 * η) ≤ k ∧ k ≤ (p + m) + y + (15 * e + 21 / 10 * η) := by
  constructor <;> grind
theorem tri {a b c d e : Rat} (h1 : b - d ≤ a ∧ a ≤ b + d) (h2 : -e ≤ b - c ∧ b - c ≤ e) : -(d + e) ≤ a - c ∧ a - c ≤ d + e := by constructor <;> grind
theorem qq_eq : vq 4605249457297304856 + vq 4359948597267291143 = qq := by decide +kernel

set_option maxRecDepth 10000 in
theorem sat_mid {t : Nat} {s η : Rat} (ht : In t 4604029899060858061 4610785298497410205) (h : -η ≤ vq t - s ∧ vq t - s ≤ η) (h1 : 64 / 100 ≤ s) (h2 : s ≤ 18 / 10) :
    Er (fadd (fadd 4605249457297304856 (xatanF (fdiv (fsub t one) (fadd t one)))) 4359948597267291143) (qq + fA ((s - 1) / (s + 1))) (15 * uq + 21 / 10 * η) ∧ Fw (fadd (fadd 4605249457297304856 (xatanF (fdiv (fsub t one) (fadd t one)))) 4359948597267291143) := by
  have kt := ht.qb (l := 65 / 100) (u := 18 / 10) (by decide +kernel) (by decide +kernel)
  obtain ⟨a, da⟩ : ∃ v, v = fsub t one := ⟨_, rfl⟩
  have ia : In a 13823348696251000422 4605380978940062010 := by rw [da]; exact In_sub ht (In.const (Fw.of (by decide +kernel))) (Fw.of (by decide +kernel)) (Fw.of (by decide +kernel)) (Fw.of (by decide +kernel)) (Fw.of (by decide +kernel)) (by decide +kernel) (by decide +kernel) (Fw.of (by decide +kernel)) (Fw.of (by decide +kernel))
  have ra : Er a (vq t - 1) (8 / 10 * uq + hq) := by rw [da]; exact q_subE ht.1 (Fw.of (by decide +kernel)) (by rw [← da]; exact ia.1) (Er.self t) (Er.const (show vq one = 1 by decide +kernel)) (T := 8 / 10) (dif_T ht (In.const (Fw.of (by decide +kernel))) (by decide +kernel) (by decide +kernel)) (by decide +kernel)
  obtain ⟨b, db⟩ : ∃ v, v = fadd t one := ⟨_, rfl⟩
  have ib : In b 4610109758557808230 4613487458276084302 := by rw [db]; exact In_add ht (In.const (Fw.of (by decide +kernel))) (Fw.of (by decide +kernel)) (Fw.of (by decide +kernel)) (Fw.of (by decide +kernel)) (Fw.of (by decide +kernel)) (by decide +kernel) (by decide +kernel) (Fw.of (by decide +kernel)) (Fw.of (by decide +kernel))
  have rb : Er b (vq t + 1) (28 / 10 * uq + hq) := by rw [db]; exact q_addE ht.1 (Fw.of (by decide +kernel)) (by rw [← db]; exact ib.1) (Er.self t) (Er.const (show vq one = 1 by decide +kernel)) (T := 28 / 10) (sum_T ht (In.const (Fw.of (by decide +kernel))) (by decide +kernel) (by decide +kernel)) (by decide +kernel)
  obtain ⟨b1, b2⟩ := ib.pos (by decide) (by decide) (by decide)
  have hb : b < INF := Nat.lt_of_le_of_lt b2 (by decide)
  have hb0 : 0 < b := Nat.lt_of_lt_of_le (by decide) b1
  obtain ⟨u, du⟩ : ∃ v, v = fdiv a b := ⟨_, rfl⟩
  have iu : In u 13825868910602476952 4602496873747701144 := by rw [du]; exact In_div ia (c := 4610109758557808230) (d := 4613487458276084302) (by decide) b1 b2 (by decide) (Fw.of (by decide +kernel)) (Fw.of (by decide +kernel)) (Fw.of (by decide +kernel)) (Fw.of (by decide +kernel)) (by decide +kernel) (by decide +kernel) (by decide +kernel) (by decide +kernel)
  have ka := ia.qb (l := -(8 / 10)) (u := 8 / 10) (by decide +kernel) (by decide +kernel)
  have kb := ib.qb (l := 164 / 100) (u := 3) (by decide +kernel) (by decide +kernel)
  have q1 := div_bd ka (show (0 : Rat) < 164 / 100 by decide +kernel) kb.1 (R := 49 / 100) (by decide +kernel) (by decide +kernel)
  have hE := q_div ia.1 hb hb0 (by rw [← du]; exact iu.1) q1.1 q1.2
  have q2 := div_bd (x := vq t - 1) (y := vq t + 1) (A := 8 / 10) (d := 164 / 100) (by constructor <;> grind) (by decide +kernel) (by grind) (R := 49 / 100) (by decide +kernel) (by decide +kernel)
  have hl := div_lin ra rb (show (0 : Rat) < 164 / 100 by decide +kernel) kb.1 (by grind) q2 (by decide +kernel) (by decide +kernel) (by decide +kernel)
  have ru : Er u ((vq t - 1) / (vq t + 1)) (2 * uq) := by rw [du]; exact er_join hE hl (by decide +kernel)
  obtain ⟨rx, fx, bx⟩ := xatan_er (iu.mono (by decide +kernel) (by decide +kernel))
  have rx5 := rx.weak (e' := 5 * uq) (by decide +kernel)
  have md := mid_alg h kt.1 h1
  have du2 := tri ru md
  have hlip := fA_lip (iu.qb (l := -(67 / 100)) (u := 67 / 100) (by decide +kernel) (by decide +kernel)) (mid_rng h1 h2) du2
  have ix : In (xatanF u) 13830554455654793216 4607182418800017408 := In.ofQ fx bx (by decide +kernel) (by decide +kernel)
  obtain ⟨z, dz⟩ : ∃ v, v = fadd 4605249457297304856 (xatanF u) := ⟨_, rfl⟩
  have iz : In z 13820271903156161440 4610719537676031628 := by rw [dz]; exact In_add (In.const (Fw.of (by decide +kernel))) ix (Fw.of (by decide +kernel)) (Fw.of (by decide +kernel)) (Fw.of (by decide +kernel)) (Fw.of (by decide +kernel)) (by decide +kernel) (by decide +kernel) (Fw.of (by decide +kernel)) (Fw.of (by decide +kernel))
  have sz := sum_T (In.const (c := 4605249457297304856) (Fw.of (by decide +kernel))) ix (T := 18 / 10) (by decide +kernel) (by decide +kernel)
  have hz := (q_add (Fw.of (by decide +kernel)) ix.1 (by rw [← dz]; exact iz.1) sz.1 sz.2).weak (e' := 18 / 10 * uq + uq / 100) (by decide +kernel)
  obtain ⟨y, dy⟩ : ∃ v, v = fadd z 4359948597267291143 := ⟨_, rfl⟩
  have iy : In y 13820271903156161439 4610719537676031628 := by rw [dy]; exact In_add iz (In.const (Fw.of (by decide +kernel))) (Fw.of (by decide +kernel)) (Fw.of (by decide +kernel)) (Fw.of (by decide +kernel)) (Fw.of (by decide +kernel)) (by decide +kernel) (by decide +kernel) (Fw.of (by decide +kernel)) (Fw.of (by decide +kernel))
  have sy := sum_T iz (In.const (c := 4359948597267291143) (Fw.of (by decide +kernel))) (T := 19 / 10) (by decide +kernel) (by decide +kernel)
  have hy := (q_add iz.1 (Fw.of (by decide +kernel)) (by rw [← dy]; exact iy.1) sy.1 sy.2).weak (e' := 19 / 10 * uq + uq / 100) (by decide +kernel)
  rw [← dz] at hz
  rw [← dy] at hy
  have e : fadd (fadd 4605249457297304856 (xatanF (fdiv (fsub t one) (fadd t one)))) 4359948597267291143 = y := by subst_vars; rfl
  rw [e]
  refine ⟨?_, iy.1⟩
  have fin := mid_lin rx5 hlip hz hy rfl (by decide +kernel)
  rw [qq_eq] at fin
  exact fin

-- TAN'S EXACT VALUE
theorem w_sq {w : Rat} (h0 : 0 ≤ w) (h1 : w ≤ 7855 / 10000) : 0 ≤ w * w ∧ w * w ≤ 6172 / 10000 :=
  ⟨rsq_nonneg w, Rat.le_trans (sq_le_sq h0 h1) (by decide +kernel)⟩
theorem fT_rng {w : Rat} (h0 : 0 ≤ w) (h1 : w ≤ 7855 / 10000) : w ≤ fT w ∧ fT w ≤ 1022 / 1000 := by
  obtain ⟨x0, x1⟩ := w_sq h0 h1
  have hr := rT_pos x0 x1
  unfold fT
  generalize rT (w * w) = r at *
  have m1 := Rat.mul_nonneg h0 hr.1
  have m2 := Rat.mul_nonneg h0 (show 0 ≤ 3 / 10 - r by grind)
  constructor <;> grind
theorem w_low {w : Rat} (h0 : 0 ≤ w) (h1 : w ≤ 7855 / 10000) (h : fT w ≤ 6612 / 10000) : w ≤ 59 / 100 := by
  rcases Rat.le_total (a := w) (b := 59 / 100) with h2 | h2
  · exact h2
  · obtain ⟨x0, x1⟩ := w_sq h0 h1
    have hx := sq_le_sq (show (0 : Rat) ≤ 59 / 100 by decide +kernel) h2
    have hr := rT_high (Rat.le_trans (by decide +kernel) hx) x1
    unfold fT at h
    generalize rT (w * w) = r at *
    have m1 := Rat.mul_nonneg h0 (show 0 ≤ r - 13 / 100 by grind)
    grind
theorem w_high {w : Rat} (h0 : 0 ≤ w) (h : 6588 / 10000 ≤ fT w) : 57 / 100 ≤ w := by
  rcases Rat.le_total (a := 57 / 100) (b := w) with h2 | h2
  · exact h2
  · have hx := sq_le_sq h0 h2
    have hr := rT_low (rsq_nonneg w) (Rat.le_trans hx (by decide +kernel))
    unfold fT at h
    generalize rT (w * w) = r at *
    have m1 := Rat.mul_nonneg h0 (show 0 ≤ 13 / 100 - r by grind)
    grind
theorem satA_lin {v a b w e η : Rat} (h1 : a - 5 * e ≤ v ∧ v ≤ a + 5 * e) (h2 : -(28 / 10 * η) ≤ a - b ∧ a - b ≤ 28 / 10 * η) (h3 : -(8 * e) ≤ b - w ∧ b - w ≤ 8 * e) (he : 0 ≤ e) : w - (20 * e + 28 / 10 * η) ≤ v ∧ v ≤ w + (20 * e + 28 / 10 * η) := by constructor <;> grind
theorem satM_lin {v c k w e η q : Rat} (h1 : q + c - (15 * e + 21 / 10 * η) ≤ v ∧ v ≤ q + c + (15 * e + 21 / 10 * η)) (h2 : -e ≤ c - k ∧ c - k ≤ e) (h3 : q + k = w) (he : 0 ≤ e) (hη : 0 ≤ η) : w - (20 * e + 28 / 10 * η) ≤ v ∧ v ≤ w + (20 * e + 28 / 10 * η) := by constructor <;> grind
theorem neg_frac (T : Rat) : (T - 1) / (T + 1) = -((1 - T) / (1 + T)) := by
  rw [show T + 1 = 1 + T by grind, show T - 1 = -(1 - T) by grind, neg_quot]
theorem inv_frac {T : Rat} (h : 0 < T) : (1 / T - 1) / (1 / T + 1) = (1 - T) / (1 + T) := by
  have h1 : T ≠ 0 := by grind
  have h2 : 1 + T ≠ 0 := by grind
  have e1 : 1 / T * T = 1 := by grind
  have h3 : 1 / T + 1 ≠ 0 := by
    intro h
    have : (1 / T + 1) * T = 0 := by rw [h]; grind
    grind
  have e2 : 1 / T + 1 = (1 + T) / T := by grind
  have e3 : 1 / T - 1 = (1 - T) / T := by grind
  rw [e2, e3]
  rw [e2] at h3
  generalize 1 + T = a at *
  generalize 1 - T = b at *
  grind

theorem satA {t : Nat} {w η : Rat} (ht : t < INF) (h0 : 0 ≤ w) (h1 : w ≤ 7855 / 10000) (h : -η ≤ vq t - fT w ∧ vq t - fT w ≤ η) (hη : η ≤ 1 / 1000) : Er (satanF t) w (20 * uq + 28 / 10 * η) ∧ Fw (satanF t) := by
  have hη0 : 0 ≤ η := by generalize vq t - fT w = x at *; grind
  obtain ⟨f0, f1⟩ := fT_rng h0 h1
  rw [satan_split (Nat.le_of_lt ht)]
  by_cases c1 : t ≤ X0
  · rw [if_pos c1]
    have it : In t 0 X0 := In.ofPos2 (Nat.zero_le _) c1 (by decide)
    have kt := it.qb (l := 0) (u := 6601 / 10000) (by decide +kernel) (by decide +kernel)
    obtain ⟨rx, fx, _⟩ := xatan_er (it.mono (by decide +kernel) (by decide +kernel))
    have hw := w_low h0 h1 (by generalize vq t = x at *; generalize fT w = y at *; grind)
    have r1 := R1 h0 hw
    have hlip := fA_lip (a := vq t) (b := fT w) (by constructor <;> grind) (by constructor <;> grind) h
    rw [show (1 / 2 ^ 50 : Rat) = 8 * uq by decide +kernel] at r1
    exact ⟨satA_lin (rx.weak (e' := 5 * uq) (by decide +kernel)) hlip r1 (by decide +kernel), fx⟩
  · rw [if_neg c1]
    have k0 := (In.ofPos2 (Nat.le_of_lt (Nat.lt_of_not_le c1)) (Nat.le_refl _) ht).q.1
    have k1 : 65999 / 100000 ≤ vq t := Rat.le_trans (by decide +kernel) k0
    by_cases c2 : TAN < t
    · exfalso
      have k2 := (In.ofPos2 (Nat.le_of_lt c2) (Nat.le_refl _) ht).q.1
      have k3 : 2 ≤ vq t := Rat.le_trans (by decide +kernel) k2
      generalize vq t = x at *
      generalize fT w = y at *
      grind
    · rw [if_neg c2]
      have it : In t 4604029899060858061 4610785298497410205 := In.ofQ (Fw.pos ht) (l := 65999 / 100000) (u := 17 / 10) ⟨k1, by generalize vq t = x at *; generalize fT w = y at *; grind⟩ (by decide +kernel) (by decide +kernel)
      have hw : 57 / 100 ≤ w := w_high h0 (by generalize vq t = x at *; generalize fT w = y at *; grind)
      obtain ⟨_, r2⟩ := R2 hw h1
      obtain ⟨rm, fm⟩ := sat_mid it h (by generalize vq t = x at *; generalize fT w = y at *; grind) (by grind)
      refine ⟨?_, fm⟩
      rw [neg_frac, fA_neg] at rm
      generalize fA ((1 - fT w) / (1 + fT w)) = c at *
      refine satM_lin (c := -c) (k := w - qq) rm ?_ (by grind) (by decide +kernel) hη0
      have : (1 / 2 ^ 55 : Rat) ≤ uq := by decide +kernel
      generalize qq = Q at *
      generalize uq = e at *
      generalize (1 / 2 ^ 55 : Rat) = e2 at *
      constructor <;> grind

theorem satB {t : Nat} {w η : Rat} (ht : t < INF) (h0 : 57 / 100 ≤ w) (h1 : w ≤ 7855 / 10000) (h : -η ≤ vq t - 1 / fT w ∧ vq t - 1 / fT w ≤ η) (hη : η ≤ 1 / 1000) : Er (satanF t) (2 * qq - w) (20 * uq + 28 / 10 * η) ∧ Fw (satanF t) := by
  have hη0 : 0 ≤ η := by generalize vq t - 1 / fT w = x at *; grind
  obtain ⟨f0, f1⟩ := fT_rng (show 0 ≤ w by grind) h1
  have hp : 0 < fT w := by grind
  have hi : 97 / 100 ≤ 1 / fT w ∧ 1 / fT w ≤ 176 / 100 := by
    have e1 : 1 / fT w * fT w = 1 := by
      generalize fT w = y at *
      have : y ≠ 0 := by grind
      grind
    generalize 1 / fT w = i at *
    generalize fT w = y at *
    clear h
    have hi0 : 0 ≤ i := by
      rcases Rat.le_total (a := 0) (b := i) with h2 | h2
      · exact h2
      · have := Rat.mul_nonneg (show 0 ≤ -i by grind) (show 0 ≤ y by grind)
        grind
    have m1 := Rat.mul_nonneg hi0 (show 0 ≤ 1022 / 1000 - y by grind)
    have m2 := Rat.mul_nonneg hi0 (show 0 ≤ y - 57 / 100 by grind)
    constructor <;> grind
  have kt : 95 / 100 ≤ vq t ∧ vq t ≤ 179 / 100 := by
    generalize vq t = x at *
    generalize 1 / fT w = i at *
    constructor <;> grind
  have it : In t 4606641986844732948 4610785298497410205 := In.ofQ (Fw.pos ht) kt (by decide +kernel) (by decide +kernel)
  obtain ⟨w1, w2⟩ := it.pos (by decide) (by decide) (by decide)
  rw [satan_split (Nat.le_of_lt ht), if_neg (Nat.not_le_of_lt (Nat.lt_of_lt_of_le (by decide) w1)), if_neg (Nat.not_lt_of_le (Nat.le_trans w2 (by decide)))]
  obtain ⟨rm, fm⟩ := sat_mid (it.mono (by decide +kernel) (by decide +kernel)) h (Rat.le_trans (by decide +kernel) hi.1) (Rat.le_trans hi.2 (by decide +kernel))
  refine ⟨?_, fm⟩
  obtain ⟨_, r2⟩ := R2 h0 h1
  rw [inv_frac hp] at rm
  generalize fA ((1 - fT w) / (1 + fT w)) = c at *
  refine satM_lin (c := c) (k := qq - w) rm ?_ (by grind) (by decide +kernel) hη0
  have : (1 / 2 ^ 55 : Rat) ≤ uq := by decide +kernel
  generalize qq = Q at *
  generalize uq = e at *
  generalize (1 / 2 ^ 55 : Rat) = e2 at *
  constructor <;> grind

end Go.Proofs.YtgbdplmpojkklaaDoor

namespace Go.Proofs.YtgbdplmpojkklaaDoor
open Ieee

-- EXACT SINE AND COSINE
def sQ (w : Rat) : Rat := w * (1 + w * w * pS (w * w))
def cQ (w : Rat) : Rat := 1 + w * w * (-1 / 2 + w * w * pC (w * w))
theorem neg_sq (w : Rat) : -w * -w = w * w := by grind
theorem sQ_neg (w : Rat) : sQ (-w) = -sQ w := by unfold sQ; rw [neg_sq]; generalize 1 + w * w * pS (w * w) = p; grind
theorem cQ_neg (w : Rat) : cQ (-w) = cQ w := by unfold cQ; rw [neg_sq]
theorem fT_neg (w : Rat) : fT (-w) = -fT w := by unfold fT; rw [neg_sq]; generalize rT (w * w) = p; grind

theorem lip_weak {P k δ x : Rat} (hk : P ≤ k) (hδ : 0 ≤ δ) (h : -(P * δ) ≤ x ∧ x ≤ P * δ) : -(k * δ) ≤ x ∧ x ≤ k * δ := by
  have m := Rat.mul_le_mul_of_nonneg_right hk hδ
  constructor <;> grind
theorem s1_lip {a b δ : Rat} (ha0 : 0 ≤ a) (ha : a ≤ 6172 / 10000) (hb0 : 0 ≤ b) (hb : b ≤ 6172 / 10000) (hd : -δ ≤ a - b ∧ a - b ≤ δ) (hδ : 0 ≤ δ) : -(2 / 10 * δ) ≤ (1 + a * pS a) - (1 + b * pS b) ∧ (1 + a * pS a) - (1 + b * pS b) ≤ 2 / 10 * δ := by
  have ra : -(6172 / 10000 : Rat) ≤ a ∧ a ≤ 6172 / 10000 := ⟨Rat.le_trans (by decide +kernel) ha0, ha⟩
  have rb : -(6172 / 10000 : Rat) ≤ b ∧ b ≤ 6172 / 10000 := ⟨Rat.le_trans (by decide +kernel) hb0, hb⟩
  have l := plip_bound ra rb hd s1l
  rw [s1l_eq, s1l_eq] at l
  exact lip_weak (by decide +kernel) hδ l
theorem c1_lip {a b δ : Rat} (ha0 : 0 ≤ a) (ha : a ≤ 6172 / 10000) (hb0 : 0 ≤ b) (hb : b ≤ 6172 / 10000) (hd : -δ ≤ a - b ∧ a - b ≤ δ) (hδ : 0 ≤ δ) : -(56 / 100 * δ) ≤ (1 + a * (-1 / 2 + a * pC a)) - (1 + b * (-1 / 2 + b * pC b)) ∧ (1 + a * (-1 / 2 + a * pC a)) - (1 + b * (-1 / 2 + b * pC b)) ≤ 56 / 100 * δ := by
  have ra : -(6172 / 10000 : Rat) ≤ a ∧ a ≤ 6172 / 10000 := ⟨Rat.le_trans (by decide +kernel) ha0, ha⟩
  have rb : -(6172 / 10000 : Rat) ≤ b ∧ b ≤ 6172 / 10000 := ⟨Rat.le_trans (by decide +kernel) hb0, hb⟩
  have l := plip_bound ra rb hd c1l
  rw [c1l_eq, c1l_eq] at l
  exact lip_weak (by decide +kernel) hδ l
theorem z_sq {Z : Rat} (h : -(7855 / 10000) ≤ Z ∧ Z ≤ 7855 / 10000) : 0 ≤ Z * Z ∧ Z * Z ≤ 6172 / 10000 :=
  ⟨rsq_nonneg Z, Rat.le_trans (prod_abs h h).2 (by decide +kernel)⟩
theorem z_rng {z : Nat} (hz : In z 13828622411414651273 4605250374559875465) : -(7855 / 10000) ≤ vq z ∧ vq z ≤ 7855 / 10000 := hz.qb (by decide +kernel) (by decide +kernel)
/-- The square's error. -/
def dq : Rat := (491 / 625 : Rat) * (491 / 625 : Rat) * uq + hq
theorem dq_pos : 0 ≤ dq := by decide +kernel
theorem sin_lin {v Z X Y p q e E : Rat} (h : Z + Z * X * p - e ≤ v ∧ v ≤ Z + Z * X * p + e) (hZ : -(7855 / 10000) ≤ Z ∧ Z ≤ 7855 / 10000) (hl : -(2 / 10 * dq) ≤ (1 + X * p) - (1 + Y * q) ∧ (1 + X * p) - (1 + Y * q) ≤ 2 / 10 * dq) (hE : e + 7855 / 10000 * (2 / 10 * dq) ≤ E) :
    Z * (1 + Y * q) - E ≤ v ∧ v ≤ Z * (1 + Y * q) + E := by
  have m := prod_abs hZ hl
  have e1 : Z + Z * X * p = Z * (1 + X * p) := by grind
  rw [e1] at h
  generalize 1 + X * p = a at *
  generalize 1 + Y * q = b at *
  generalize dq = d at *
  constructor <;> grind
theorem sin_z {z : Nat} (hz : In z 13828622411414651273 4605250374559875465) : Er (sinP z) (sQ (vq z)) (5 / 4 * uq) ∧ Fw (sinP z) := by
  have hw := sq_in hz
  have hX := hw.qb (l := 0) (u := 6172 / 10000) (by decide +kernel) (by decide +kernel)
  have hZ := z_rng hz
  have hY := z_sq hZ
  have hd := er_dif (sq_er hz)
  obtain ⟨rs, fs⟩ := sin_er hz hw
  exact ⟨sin_lin rs hZ (s1_lip hX.1 hX.2 hY.1 hY.2 hd dq_pos) (by decide +kernel), fs⟩
theorem cos_lin {v X p b e E d : Rat} (h : (1 - 1 / 2 * X) + X * X * p - e ≤ v ∧ v ≤ (1 - 1 / 2 * X) + X * X * p + e) (hl : -d ≤ (1 + X * (-1 / 2 + X * p)) - b ∧ (1 + X * (-1 / 2 + X * p)) - b ≤ d) (hE : e + d ≤ E) :
    b - E ≤ v ∧ v ≤ b + E := by
  have e1 : (1 - 1 / 2 * X) + X * X * p = 1 + X * (-1 / 2 + X * p) := by grind
  rw [e1] at h
  generalize 1 + X * (-1 / 2 + X * p) = a at *
  constructor <;> grind
theorem cos_z {z : Nat} (hz : In z 13828622411414651273 4605250374559875465) : Er (cosP z) (cQ (vq z)) (11 / 4 * uq) ∧ Fw (cosP z) := by
  have hw := sq_in hz
  have hX := hw.qb (l := 0) (u := 6172 / 10000) (by decide +kernel) (by decide +kernel)
  have hZ := z_rng hz
  have hY := z_sq hZ
  have hd := er_dif (sq_er hz)
  obtain ⟨rc, fc⟩ := cos_er hw
  exact ⟨cos_lin rc (c1_lip hX.1 hX.2 hY.1 hY.2 hd dq_pos) (by decide +kernel), fc⟩
theorem tan_lin {v Z x y e E : Rat} (h : Z + Z * x - e ≤ v ∧ v ≤ Z + Z * x + e) (hZ : -(7855 / 10000) ≤ Z ∧ Z ≤ 7855 / 10000) (hl : -(1 * dq) ≤ x - y ∧ x - y ≤ 1 * dq) (hE : e + 7855 / 10000 * (1 * dq) ≤ E) : Z + Z * y - E ≤ v ∧ v ≤ Z + Z * y + E := by
  have m := prod_abs hZ hl
  generalize dq = d at *
  constructor <;> grind
theorem tan_small {Z X r : Rat} (hX : X ≤ 1 / 90000000000000) (hd : -dq ≤ X - Z * Z ∧ X - Z * Z ≤ dq) (hr : 0 ≤ r ∧ r ≤ 3 / 10) (hr2 : r ≤ Z * Z) : Z + Z * r - 4 * uq ≤ Z ∧ Z ≤ Z + Z * r + 4 * uq := by
  have hdq : dq ≤ 1 / 1000000000000000 := by decide +kernel
  have h1 : Z * Z ≤ 1 / 10000000000000 := by
    generalize dq = d at *
    grind
  have hZ : -(1 / 1000) ≤ Z ∧ Z ≤ 1 / 1000 := by
    clear hd hX hr hr2
    constructor
    · rcases Rat.le_total (a := -(1 / 1000)) (b := Z) with h | h
      · exact h
      · have := Rat.mul_nonneg (show 0 ≤ -(1 / 1000) - Z by grind) (show 0 ≤ -(1 / 1000) - Z by grind)
        grind
    · rcases Rat.le_total (a := Z) (b := 1 / 1000) with h | h
      · exact h
      · have := Rat.mul_nonneg (show 0 ≤ Z - (1 / 1000) by grind) (show 0 ≤ Z - (1 / 1000) by grind)
        grind
  have hr3 : -(1 / 10000000000000) ≤ r ∧ r ≤ 1 / 10000000000000 := by
    constructor <;> grind
  have m := prod_abs hZ hr3
  have e : (1 / 1000 : Rat) * (1 / 10000000000000) ≤ 4 * uq := by decide +kernel
  generalize 4 * uq = u at *
  generalize (1 / 1000 : Rat) * (1 / 10000000000000) = k at *
  clear hr hr2 hr3 hZ h1 hX hd hdq
  constructor <;> grind
theorem rT_zero : rT 0 = 0 := by decide +kernel
set_option maxRecDepth 10000 in
theorem tan_z {z : Nat} (hz : In z 13828622411414651273 4605250374559875465) : Er (tanP z) (fT (vq z)) (4 * uq) ∧ Fw (tanP z) := by
  have hw := sq_in hz
  have hX := hw.qb (l := 0) (u := 6172 / 10000) (by decide +kernel) (by decide +kernel)
  have hZ := z_rng hz
  have hY := z_sq hZ
  have hd : -dq ≤ vq (fmul z z) - vq z * vq z ∧ vq (fmul z z) - vq z * vq z ≤ dq := er_dif (sq_er hz)
  unfold tanP fT
  cases hg : fgt (fmul z z) 4397347889687374747 with
  | true =>
    rw [if_pos rfl]
    obtain ⟨rq, bq, fq⟩ := tan_q hw
    obtain ⟨q, eq⟩ : ∃ q, q = fdiv (fmul (fmul z z) (tanN (fmul z z))) (tanD (fmul z z)) := ⟨_, rfl⟩
    rw [← eq] at rq bq fq ⊢
    have iq : In q 13822449777765377271 4599077740910601463 := In.ofQ fq bq (by decide +kernel) (by decide +kernel)
    have b2 : Bd z (491 / 625 : Rat) := hz.bd (by decide +kernel) (by decide +kernel)
    obtain ⟨v1, d1⟩ : ∃ v, v = fmul z q := ⟨_, rfl⟩
    have i1 : In v1 13821547256400052224 4598175219545276416 := by
      rw [d1]; exact (In_mul hz iq (Fw.of (by decide +kernel)) (Fw.of (by decide +kernel)) (Fw.of (by decide +kernel)) (Fw.of (by decide +kernel)) (Fw.of (by decide +kernel)) (Fw.of (by decide +kernel)) (by decide +kernel) (by decide +kernel) (by decide +kernel) (by decide +kernel) (by decide +kernel) (by decide +kernel) (by decide +kernel) (by decide +kernel))
    have r1 : Er v1 (vq z * rT (vq (fmul z z))) (15 / 10 * uq) := by
      rw [d1]; exact q_mulE hz.1 fq (by rw [← d1]; exact i1.1) (Er.self z) rq (A := 491 / 625) (Y := 3 / 10) b2 bq (by decide +kernel)
    obtain ⟨v2, d2⟩ : ∃ v, v = fadd z v1 := ⟨_, rfl⟩
    have f2 : Fw v2 := by
      rw [d2]; exact (In_add hz i1 (Fw.of (by decide +kernel)) (Fw.of (by decide +kernel)) (Fw.of (by decide +kernel)) (Fw.of (by decide +kernel)) rfl rfl (Fw.of (by decide +kernel)) (Fw.of (by decide +kernel))).1
    have r2 : Er v2 (vq z + vq z * rT (vq (fmul z z))) (27 / 10 * uq) := by
      rw [d2]; exact q_addE hz.1 i1.1 (by rw [← d2]; exact f2) (Er.self z) r1 (T := 11 / 10) (sum_T hz i1 (by decide +kernel) (by decide +kernel)) (by decide +kernel)
    rw [← d1, ← d2]
    exact ⟨tan_lin r2 hZ (rT_lip hX.1 hX.2 hY.1 hY.2 hd dq_pos) (by decide +kernel), f2⟩
  | false =>
    rw [if_neg (by decide)]
    refine ⟨?_, hz.1⟩
    have hs : vq (fmul z z) ≤ 1 / 90000000000000 := by
      obtain ⟨q, hq, eq⟩ := sq_word hz.1 hw.1
      rw [eq] at hg ⊢
      have e := fgt_pos false q 4397347889687374747 (Nat.le_of_lt hq) (by decide)
      rw [word_false, hg] at e
      have k2 : q ≤ 4397347889687374747 := by
        refine Nat.le_of_not_lt fun hh => ?_
        rw [decide_eq_true hh] at e
        cases e
      exact ((In.ofPos2 (Nat.zero_le q) k2 (by decide)).qb (l := 0) (by decide +kernel) (by decide +kernel)).2
    have hr := rT_pos hY.1 hY.2
    have hl := rT_lip hY.1 hY.2 (b := 0) (δ := vq z * vq z) (by decide) (by decide +kernel) (by constructor <;> grind) hY.1
    rw [rT_zero] at hl
    exact tan_small hs hd hr (by generalize rT (vq z * vq z) = r at *; generalize vq z * vq z = y at *; grind)

-- THE IDENTITIES
theorem rndQ {w : Rat} (h : -(7855 / 10000) ≤ w ∧ w ≤ 7855 / 10000) : -(1 / 4 * uq) ≤ sQ w * sQ w + cQ w * cQ w - 1 ∧ sQ w * sQ w + cQ w * cQ w - 1 ≤ 1 / 4 * uq := by
  have hY := z_sq h
  have hr := rnd_bound hY.1 hY.2
  rw [rnd_eq, show (1 / 2 ^ 55 : Rat) = 1 / 4 * uq by decide +kernel] at hr
  have e : sQ w * sQ w + cQ w * cQ w - 1 = w * w * ((1 + w * w * pS (w * w)) * (1 + w * w * pS (w * w))) + (1 + w * w * (-1 / 2 + w * w * pC (w * w))) * (1 + w * w * (-1 / 2 + w * w * pC (w * w))) - 1 := by
    unfold sQ cQ
    generalize 1 + w * w * pS (w * w) = a
    generalize 1 + w * w * (-1 / 2 + w * w * pC (w * w)) = b
    grind
  rw [e]; exact hr
theorem etaQ {w : Rat} (h : -(7855 / 10000) ≤ w ∧ w ≤ 7855 / 10000) : -uq ≤ fT w * cQ w - sQ w ∧ fT w * cQ w - sQ w ≤ uq := by
  have hY := z_sq h
  have hr := eta_bound hY.1 hY.2
  have m := prod_abs h hr
  have e : fT w * cQ w - sQ w = w * ((1 + 1 * (w * w * pT (w * w) / qD (w * w))) * (1 - 1 / 2 * (w * w) + w * w * (w * w) * pC (w * w)) - (1 + 1 * (w * w) * pS (w * w))) := by
    unfold fT rT sQ cQ
    generalize w * w * pT (w * w) / qD (w * w) = a
    generalize pS (w * w) = b
    generalize pC (w * w) = c
    generalize w * w = X
    grind
  rw [e]
  exact ⟨Rat.le_trans (by decide +kernel) m.1, Rat.le_trans m.2 (by decide +kernel)⟩
theorem cQ_rng {w : Rat} (h : -(7855 / 10000) ≤ w ∧ w ≤ 7855 / 10000) : 705 / 1000 ≤ cQ w ∧ cQ w ≤ 1005 / 1000 := by
  have hY := z_sq h
  have hp := pieces_bound (p := padd c1l [-(855 / 1000)]) (e := 150 / 1000) (h := 6172 / 1280000) 64 (by decide +kernel) hY.1 (by rw [show (2 : Rat) * ((64 : Nat) : Rat) * (6172 / 1280000) = 6172 / 10000 by decide +kernel]; exact hY.2) (by decide)
  rw [pev_add, c1l_eq] at hp
  simp only [pev] at hp
  unfold cQ
  generalize 1 + w * w * (-1 / 2 + w * w * pC (w * w)) = c at *
  constructor <;> grind
theorem sQ_rng {w : Rat} (h0 : 0 ≤ w) (h1 : w ≤ 7855 / 10000) : 89 / 100 * w ≤ sQ w ∧ sQ w ≤ 101 / 100 * w := by
  obtain ⟨x0, x1⟩ := w_sq h0 h1
  have hs := s1_lower x0 x1
  unfold sQ
  generalize 1 + w * w * pS (w * w) = a at *
  have m1 := Rat.mul_nonneg h0 (show 0 ≤ a - 89 / 100 by grind)
  have m2 := Rat.mul_nonneg h0 (show 0 ≤ 101 / 100 - a by grind)
  constructor <;> grind

-- THE ROOT
theorem root_nat {n c : Nat} (h : RnSq n c) (hB : B ≤ c) (hI : c < INF) : ∃ p q : Nat, 4 * n ≤ (2 * V c + p) * (2 * V c + p) ∧ q ≤ 2 * V c ∧ (2 * V c - q) * (2 * V c - q) ≤ 4 * n ∧ 4503599627370496 * p ≤ V c ∧ 4503599627370496 * q ≤ V c := by
  have hp : ∀ r, B ≤ r → B * 2 ^ pl r ≤ V r := by
    intro r hr
    rw [V_eq]; refine Nat.mul_le_mul_right _ ?_
    unfold mg; rw [if_neg (Nat.not_lt_of_le hr)]; exact Nat.le_add_right _ _
  have h1 : 4 * n ≤ M c * M c := by
    rcases (h.2 c hI).1 (Nat.le_refl _) with h1 | ⟨h1, _⟩ <;> omega
  have e1 : M c = 2 * V c + 2 ^ pl c := by unfold M; rw [V_step]; show V c + (V c + 2 ^ pl c) = _; omega
  have hB0 := B_pos
  have h2 : M (c - 1) * M (c - 1) ≤ 4 * n := by
    by_cases hh : M (c - 1) * M (c - 1) ≤ 4 * n
    · exact hh
    · have := (h.2 (c - 1) (by omega)).2 (.inl (by omega)); omega
  have e2 : V c = V (c - 1) + 2 ^ pl (c - 1) := by
    have := V_step (c - 1); rw [show c - 1 + 1 = c by omega] at this; exact this
  have e3 : M (c - 1) = 2 * V c - 2 ^ pl (c - 1) := by
    unfold M; rw [show c - 1 + 1 = c by omega]; omega
  have hq : B * 2 ^ pl (c - 1) ≤ V c := by
    refine Nat.le_trans (Nat.mul_le_mul_left _ (Nat.pow_le_pow_right (by decide) ?_)) (hp c hB)
    unfold pl
    have := Nat.div_le_div_right (c := B) (show c - 1 ≤ c by omega)
    omega
  refine ⟨2 ^ pl c, 2 ^ pl (c - 1), ?_, ?_, ?_, hp c hB, hq⟩
  · rw [← e1]; exact h1
  · omega
  · rw [← e3]; exact h2
theorem root_alg {v p q n : Rat} (hv : 0 ≤ v) (hp0 : 0 ≤ p) (h1 : 4 * n ≤ (2 * v + p) * (2 * v + p)) (h2 : (2 * v - q) * (2 * v - q) ≤ 4 * n) (hp : 4503599627370496 * p ≤ v) (hq : 4503599627370496 * q ≤ v) :
    n ≤ v * v * ((1 + uq) * (1 + uq)) ∧ v * v * ((1 - uq) * (1 - uq)) ≤ n := by
  have eu : uq = 1 / 9007199254740992 := rfl
  have m1 := sq_le_sq (show 0 ≤ 2 * v + p by grind) (show 2 * v + p ≤ 2 * (v * (1 + uq)) by rw [eu]; grind)
  have m2 := sq_le_sq (a := 2 * (v * (1 - uq))) (b := 2 * v - q) (by rw [eu]; grind) (by rw [eu]; grind)
  generalize uq = u at *
  clear eu hp hq
  constructor <;> grind
theorem root_q {d c : Nat} (hd : d < INF) (h0 : 0 < d) (hc : c = fsqrt d) (hB : B ≤ c) (hI : c < INF) : vq d ≤ vq c * vq c * ((1 + uq) * (1 + uq)) ∧ vq c * vq c * ((1 - uq) * (1 - uq)) ≤ vq d := by
  have hr := fsqrt_RnSq hd h0
  rw [← hc] at hr
  obtain ⟨p, q, h1, hq0, h2, hp, hq⟩ := root_nat hr hB hI
  have k1 := Rat.natCast_le_natCast.2 h1
  have e : 2 * V c - q + q = 2 * V c := Nat.sub_add_cancel hq0
  obtain ⟨t, et⟩ : ∃ t, t = 2 * V c - q := ⟨_, rfl⟩
  rw [← et] at h2 e
  have k2 := Rat.natCast_le_natCast.2 h2
  have k3 := Rat.natCast_le_natCast.2 hp
  have k4 := Rat.natCast_le_natCast.2 hq
  have k5 : ((t + q : Nat) : Rat) = ((2 * V c : Nat) : Rat) := by rw [e]
  simp only [Rat.natCast_mul, Rat.natCast_add] at k1 k2 k3 k4 k5
  have c1 : ((4 : Nat) : Rat) = 4 := rfl
  have c2 : ((2 : Nat) : Rat) = 2 := rfl
  have c3 : ((4503599627370496 : Nat) : Rat) = 4503599627370496 := rfl
  rw [c1, c2] at k1
  rw [c1] at k2
  rw [c2] at k5
  rw [c3] at k3 k4
  have p0 : (0 : Rat) ≤ (p : Rat) := Rat.natCast_nonneg
  have v0 : (0 : Rat) ≤ (V c : Rat) := Rat.natCast_nonneg
  have et2 : (t : Rat) = 2 * (V c : Rat) - q := by grind
  rw [et2] at k2
  have h := root_alg v0 p0 k1 k2 k3 k4
  have hU := Uq_pos
  have ed : (V d : Rat) = vq d * Uq := by rw [vq_nat hd]; grind
  have ec : (V c : Rat) = vq c * Uq := by rw [vq_nat hI]; grind
  have eU : ((U : Nat) : Rat) = Uq := rfl
  rw [ed, ec, eU] at h
  clear k1 k2 k3 k4 k5 et2 ed ec p0 v0
  generalize (1 + uq) * (1 + uq) = a at *
  generalize (1 - uq) * (1 - uq) = b at *
  generalize vq d = D at *
  generalize vq c = C at *
  have hUU := Rat.mul_pos hU hU
  constructor
  · refine Rat.le_of_mul_le_mul_right (c := Uq * Uq) ?_ hUU
    have := h.1
    generalize Uq = u at *
    grind
  · refine Rat.le_of_mul_le_mul_right (c := Uq * Uq) ?_ hUU
    have := h.2
    generalize Uq = u at *
    grind
theorem root_er {d c : Nat} {K : Rat} (hd : d < INF) (h0 : 0 < d) (hc : c = fsqrt d) (hB : B ≤ c) (hI : c < INF) (hK : vq c * vq c ≤ K) : -(K * (201 / 100 * uq)) ≤ vq c * vq c - vq d ∧ vq c * vq c - vq d ≤ K * (201 / 100 * uq) := by
  obtain ⟨h1, h2⟩ := root_q hd h0 hc hB hI
  have hx := rsq_nonneg (vq c)
  generalize vq c * vq c = x at *
  generalize vq d = D at *
  have a1 : (1 + uq) * (1 + uq) ≤ 1 + 201 / 100 * uq := by decide +kernel
  have a2 : 1 - 201 / 100 * uq ≤ (1 - uq) * (1 - uq) := by decide +kernel
  have a3 : 0 ≤ 201 / 100 * uq := by decide +kernel
  have m1 := Rat.mul_le_mul_of_nonneg_left a1 hx
  have m2 := Rat.mul_le_mul_of_nonneg_left a2 hx
  have m3 := Rat.mul_le_mul_of_nonneg_right hK a3
  generalize (1 + uq) * (1 + uq) = a at *
  generalize (1 - uq) * (1 - uq) = b at *
  generalize 201 / 100 * uq = k at *
  clear a1 a2
  constructor <;> grind
/-- Squares that lie near: so do their roots. -/
theorem root_near {q C E k ε : Rat} (h : -E ≤ q * q - C * C ∧ q * q - C * C ≤ E) (hk : k ≤ q + C) (h0 : 0 < k) (hE : E ≤ k * ε) (hε : 0 ≤ ε) : -ε ≤ q - C ∧ q - C ≤ ε := by
  have e : (q - C) * (q + C) = q * q - C * C := by grind
  exact abs_div hk hE hε h0 (by rw [e]; exact h)

end Go.Proofs.YtgbdplmpojkklaaDoor

namespace Go.Proofs.YtgbdplmpojkklaaDoor
open Ieee

theorem vq_nonneg {s : Nat} (h : s < INF) : 0 ≤ vq s := (In.ofPos2 (Nat.zero_le s) (Nat.le_refl s) h).qb (l := 0) (u := vq s) (by decide +kernel) (by exact Rat.le_refl) |>.1
/-- The square of the root, out of its parts. -/
theorem sqr_lin {x S C m d q a b k r E e : Rat} (h1 : S - a ≤ x ∧ x ≤ S + a) (hb : -b ≤ x + S ∧ x + S ≤ b) (h2 : x * x - k ≤ m ∧ m ≤ x * x + k) (h3 : 1 - m - r ≤ d ∧ d ≤ 1 - m + r) (h4 : -e ≤ q * q - d ∧ q * q - d ≤ e) {f : Rat} (h5 : -f ≤ S * S + C * C - 1 ∧ S * S + C * C - 1 ≤ f) (hE : a * b + k + r + e + f ≤ E) :
    -E ≤ q * q - C * C ∧ q * q - C * C ≤ E := by
  have m1 := prod_abs (show -a ≤ x - S ∧ x - S ≤ a by constructor <;> grind) hb
  have e1 : (x - S) * (x + S) = x * x - S * S := by grind
  rw [e1] at m1
  generalize x * x = xx at *
  generalize S * S = ss at *
  generalize C * C = cc at *
  generalize q * q = qq at *
  generalize a * b = ab at *
  clear e1 hb h1
  constructor <;> grind
/-- A quotient against a number. -/
theorem quo_lin {x y T δ ε k : Rat} (h : -δ ≤ x - T * y ∧ x - T * y ≤ δ) (hk : k ≤ y) (h0 : 0 < k) (hE : δ ≤ k * ε) (hε : 0 ≤ ε) : -ε ≤ x / y - T ∧ x / y - T ≤ ε := by
  have hy : y ≠ 0 := by grind
  have e : (x / y - T) * y = x - T * y := by
    have : x / y * y = x := by grind
    generalize x / y = v at *
    grind
  exact abs_div hk hE hε h0 (by rw [e]; exact h)
theorem ttc_lin {x y S C T a c e E : Rat} (h1 : S - a ≤ x ∧ x ≤ S + a) (h2 : -c ≤ y - C ∧ y - C ≤ c) (h3 : -e ≤ T * C - S ∧ T * C - S ≤ e) (hT : -(1022 / 1000) ≤ T ∧ T ≤ 1022 / 1000) (hE : a + e + 1022 / 1000 * c ≤ E) : -E ≤ x - T * y ∧ x - T * y ≤ E := by
  have m := prod_abs hT h2
  have e1 : T * (y - C) = T * y - T * C := by grind
  rw [e1] at m
  generalize T * y = u at *
  generalize T * C = v at *
  clear e1 hT h2
  constructor <;> grind
theorem add_er {v x T d η E : Rat} (h : x - d ≤ v ∧ v ≤ x + d) (h2 : -η ≤ x - T ∧ x - T ≤ η) (hE : d + η ≤ E) : -E ≤ v - T ∧ v - T ≤ E := by constructor <;> grind
theorem half_lin {v s w H Q e f g E : Rat} (h : H - s - e ≤ v ∧ v ≤ H - s + e) (h2 : w - f ≤ s ∧ s ≤ w + f) (h3 : -g ≤ H - Q ∧ H - Q ≤ g) (hE : e + f + g ≤ E) : Q - w - E ≤ v ∧ v ≤ Q - w + E := by constructor <;> grind
theorem half_eq : -(6 / 10 * uq) ≤ vq 4609753056924675352 - 2 * qq ∧ vq 4609753056924675352 - 2 * qq ≤ 6 / 10 * uq := by decide +kernel

/-- Pi/2 less a number from 0 to 8/5. -/
theorem half_sub {s : Nat} {w f E : Rat} (fs : Fw s) (h : Er s w f) (hw : 0 ≤ w) (hw1 : w ≤ 158 / 100) (hf : f ≤ 1 / 1000) (hE : 18 / 10 * uq + f + 6 / 10 * uq ≤ E) : Er (fsub 4609753056924675352 s) (2 * qq - w) E ∧ Fw (fsub 4609753056924675352 s) := by
  have is : In s 13800000000000000000 4610785298497410205 := In.ofQ fs (l := -(1 / 1000)) (u := 1581 / 1000) (by unfold Er at h; constructor <;> grind) (by decide +kernel) (by decide +kernel)
  have i2 := In_sub (In.const (c := 4609753056924675352) (Fw.of (by decide +kernel))) is (Fw.of (by decide +kernel)) (Fw.of (by decide +kernel)) (Fw.of (by decide +kernel)) (Fw.of (by decide +kernel)) rfl rfl (Fw.of (by decide +kernel)) (Fw.of (by decide +kernel))
  have kd := dif_T (In.const (c := 4609753056924675352) (Fw.of (by decide +kernel))) is (T := 17 / 10) (by decide +kernel) (by decide +kernel)
  have r := (q_sub (Fw.of (by decide +kernel)) fs i2.1 kd.1 kd.2).weak (e' := 18 / 10 * uq) (by decide +kernel)
  exact ⟨half_lin r h half_eq hE, i2.1⟩

-- ASIN NEAR THE SINE
def S8 : Nat := 4605380978949069210
theorem fdiv_fin {x y c d : Nat} (hx : x ≤ c) (hy : d ≤ y) (hc : c < INF) (hd : 0 < d) (hyI : y < INF) (h : fdiv c d < INF) : fdiv x y < INF :=
  Nat.lt_of_le_of_lt (fdiv_mono hc hyI hd hx hy) h
theorem nat_of_q {s c : Nat} (hs : s < INF) (hc : c < INF) (h : vq s ≤ vq c) : s ≤ c := by
  have := vq_le_inv h
  rw [sv_fin hs, sv_fin hc] at this
  exact V_le_iff.1 (Int.ofNat_le.1 this)
theorem q_of_nat {s c : Nat} (hc : c < INF) (h : s ≤ c) : vq s ≤ vq c := (In.ofPos2 (Nat.le_refl s) h hc).q.2
theorem Er.dif {x : Nat} {p e : Rat} (h : Er x p e) : -e ≤ vq x - p ∧ vq x - p ≤ e := er_dif h

theorem root_S {s : Nat} {S C : Rat} (hs : s < INF) (h : Er s S (5 / 4 * uq)) (S0 : 0 ≤ S) (S1 : S ≤ 794 / 1000) (hC : 705 / 1000 ≤ C) (hr : -(1 / 4 * uq) ≤ S * S + C * C - 1 ∧ S * S + C * C - 1 ≤ 1 / 4 * uq) :
    s ≤ S8 ∧ 4603579539098121010 ≤ fsqrt (fsub one (fmul s s)) ∧ fsqrt (fsub one (fmul s s)) ≤ ONE ∧ (-(51 / 10 * uq) ≤ vq (fsqrt (fsub one (fmul s s))) - C ∧ vq (fsqrt (fsub one (fmul s s))) - C ≤ 51 / 10 * uq) := by
  have hS8 : S8 < INF := by decide
  have ks : vq s ≤ 799 / 1000 := Rat.le_trans h.2 (by
    have : (5 / 4 * uq : Rat) ≤ 1 / 1000 := by decide +kernel
    generalize (5 / 4 * uq : Rat) = u at *
    grind)
  have ks0 := vq_nonneg hs
  have hle : s ≤ S8 := nat_of_q hs hS8 (Rat.le_trans ks (by decide +kernel))
  have is : In s 0 S8 := In.ofPos2 (Nat.zero_le _) hle hS8
  obtain ⟨m, dm⟩ : ∃ m, m = fmul s s := ⟨_, rfl⟩
  have hm1 : m ≤ 4603939827068310652 := by rw [dm]; exact Nat.le_trans (fmul_mono hS8 hS8 hle hle) (by decide +kernel)
  have im : In m 0 4603939827068310652 := In.ofPos2 (Nat.zero_le _) hm1 (by decide)
  have ss := prod_abs (show -(799 / 1000) ≤ vq s ∧ vq s ≤ 799 / 1000 from ⟨Rat.le_trans (by decide +kernel) ks0, ks⟩) (show -(799 / 1000) ≤ vq s ∧ vq s ≤ 799 / 1000 from ⟨Rat.le_trans (by decide +kernel) ks0, ks⟩)
  have rm := (q_mul (Fw.pos hs) (Fw.pos hs) (by rw [← dm]; exact im.1) ss.1 ss.2).weak (e' := 65 / 100 * uq) (by decide +kernel)
  rw [← dm] at rm
  obtain ⟨d, dd⟩ : ∃ d, d = fsub one m := ⟨_, rfl⟩
  have id : In d 4600156803381319432 4607182418800017408 := by
    rw [dd]; exact In_sub (In.const (Fw.of (by decide +kernel))) im (Fw.of (by decide +kernel)) (Fw.of (by decide +kernel)) (Fw.of (by decide +kernel)) (Fw.of (by decide +kernel)) (by decide +kernel) (by decide +kernel) (Fw.of (by decide +kernel)) (Fw.of (by decide +kernel))
  have kd := dif_T (In.const (c := one) (Fw.of (by decide +kernel))) im (T := 1) (by decide +kernel) (by decide +kernel)
  have rd := (q_sub (Fw.of (by decide +kernel)) im.1 (by rw [← dd]; exact id.1) kd.1 kd.2).weak (e' := 101 / 100 * uq) (by decide +kernel)
  rw [← dd, show vq one = 1 by decide +kernel] at rd
  obtain ⟨p1, p2⟩ := id.pos (by decide) (by decide) (by decide)
  have hdI : d < INF := Nat.lt_of_le_of_lt p2 (by decide)
  obtain ⟨c, dc⟩ : ∃ c, c = fsqrt d := ⟨_, rfl⟩
  have c1 : 4603579539098121010 ≤ c := by rw [dc]; exact Nat.le_trans (by decide +kernel) (fsqrt_mono hdI p1)
  have c2 : c ≤ ONE := by rw [dc]; exact Nat.le_trans (fsqrt_mono (by decide) p2) (by decide +kernel)
  have hcI : c < INF := Nat.lt_of_le_of_lt c2 (by decide)
  have ic : In c 4603579539098121010 ONE := In.ofPos2 c1 c2 (by decide)
  have kc := ic.qb (l := 59 / 100) (u := 1) (by decide +kernel) (by decide +kernel)
  have cc := prod_abs (show -1 ≤ vq c ∧ vq c ≤ 1 from ⟨Rat.le_trans (by decide +kernel) kc.1, kc.2⟩) (show -1 ≤ vq c ∧ vq c ≤ 1 from ⟨Rat.le_trans (by decide +kernel) kc.1, kc.2⟩)
  have re := root_er hdI (Nat.lt_of_lt_of_le (by decide) p1) dc (Nat.le_trans (by decide) c1) hcI cc.2
  have hsum : -(16 / 10) ≤ vq s + S ∧ vq s + S ≤ 16 / 10 := by constructor <;> grind
  have hq := sqr_lin h hsum rm rd re hr (E := 65 / 10 * uq) (by decide +kernel)
  have hn := root_near hq (k := 129 / 100) (ε := 51 / 10 * uq) (by grind) (by decide +kernel) (by decide +kernel) (by decide +kernel)
  have e : fsqrt (fsub one (fmul s s)) = c := by rw [dc, dd, dm]
  rw [e]
  exact ⟨hle, c1, c2, hn⟩

theorem inv_T {T : Rat} (h : 68 / 100 ≤ T) : 1 / T * T = 1 ∧ 0 ≤ 1 / T ∧ 1 / T ≤ 15 / 10 := by
  have e : 1 / T * T = 1 := by
    have : T ≠ 0 := by grind
    grind
  generalize 1 / T = i at *
  have i0 : 0 ≤ i := by
    rcases Rat.le_total (a := 0) (b := i) with h2 | h2
    · exact h2
    · have := Rat.mul_nonneg (show 0 ≤ -i by grind) (show 0 ≤ T by grind)
      grind
  have m := Rat.mul_nonneg i0 (show 0 ≤ T - 68 / 100 by grind)
  refine ⟨e, i0, ?_⟩
  grind
theorem inv_quo {x y T δ : Rat} (h : -δ ≤ x - T * y ∧ x - T * y ≤ δ) (hT : 68 / 100 ≤ T) : -(15 / 10 * δ) ≤ y - 1 / T * x ∧ y - 1 / T * x ≤ 15 / 10 * δ := by
  obtain ⟨e, i0, i1⟩ := inv_T hT
  generalize 1 / T = i at *
  have m := prod_abs (show -(15 / 10) ≤ i ∧ i ≤ 15 / 10 by constructor <;> grind) h
  have e1 : i * (x - T * y) = i * x - (i * T) * y := by grind
  rw [e1, e] at m
  generalize i * x = u at *
  clear e e1 h
  constructor <;> grind

theorem asin_S {s : Nat} {w : Rat} (hs : s < INF) (h0 : 0 ≤ w) (h1 : w ≤ 7855 / 10000) (h : Er s (sQ w) (5 / 4 * uq)) : Er (asinA s) w (76 * uq) ∧ Fw (asinA s) := by
  have hw : -(7855 / 10000) ≤ w ∧ w ≤ 7855 / 10000 := ⟨Rat.le_trans (by decide +kernel) h0, h1⟩
  obtain ⟨s0, s1⟩ := sQ_rng h0 h1
  have hC := cQ_rng hw
  obtain ⟨hle, c1, c2, hc⟩ := root_S hs h (by generalize sQ w = y at *; grind) (by generalize sQ w = y at *; grind) hC.1 (rndQ hw)
  obtain ⟨c, dc⟩ : ∃ c, c = fsqrt (fsub one (fmul s s)) := ⟨_, rfl⟩
  rw [← dc] at c1 c2 hc
  have hcI : c < INF := Nat.lt_of_le_of_lt c2 (by decide)
  have ic : In c 4603579539098121010 ONE := In.ofPos2 c1 c2 (by decide)
  have kc := ic.qb (l := 59 / 100) (u := 1) (by decide +kernel) (by decide +kernel)
  have ks0 := vq_nonneg hs
  have hS8 : S8 < INF := by decide
  have ks : vq s ≤ 801 / 1000 := Rat.le_trans (q_of_nat hS8 hle) (by decide +kernel)
  have hT := fT_rng h0 h1
  have ht := ttc_lin h hc (etaQ hw) ⟨Rat.le_trans (by decide +kernel) (Rat.le_trans h0 hT.1), hT.2⟩ (E := 75 / 10 * uq) (by decide +kernel)
  unfold asinA
  have eg := fgt_pos false s C7 (Nat.le_of_lt hs) (by decide)
  rw [word_false] at eg
  rw [show (4604480259023595110 : Nat) = C7 from rfl, eg, ← dc]
  by_cases hcmp : C7 < s
  · rw [if_pos (by simp [hcmp])]
    have k7 : 69 / 100 ≤ vq s := Rat.le_trans (by decide +kernel) (q_of_nat hs (Nat.le_of_lt hcmp))
    have hw2 : 68 / 100 ≤ w := by
      have h3 := h.1
      have : (5 / 4 * uq : Rat) ≤ 1 / 10000 := by decide +kernel
      have k8 : 6999 / 10000 ≤ vq s := Rat.le_trans (by decide +kernel) (q_of_nat hs (Nat.le_of_lt hcmp))
      have h4 : sQ w ≤ 101 / 100 * w := s1
      generalize (5 / 4 * uq : Rat) = u at *
      have h5 := h.2
      clear ht hc hT hC h
      generalize sQ w = y at *
      generalize vq s = x at *
      grind
    have tI : fdiv c s < INF := fdiv_fin c2 (Nat.le_of_lt hcmp) (by decide) (by decide) hs (by decide +kernel)
    have hi := inv_quo ht (Rat.le_trans hw2 hT.1)
    have hq := quo_lin hi k7 (by decide +kernel) (ε := 17 * uq) (by decide +kernel) (by decide +kernel)
    have hb := div_bd (x := vq c) (y := vq s) (A := 1) (d := 69 / 100) ⟨Rat.le_trans (by decide +kernel) kc.1, kc.2⟩ (by decide +kernel) k7 (R := 146 / 100) (by decide +kernel) (by decide +kernel)
    have rt := q_div (Fw.pos hcI) hs (Nat.lt_of_le_of_lt (Nat.zero_le _) hcmp) (Fw.pos tI) hb.1 hb.2
    have hη := add_er rt hq (E := 19 * uq) (by decide +kernel)
    obtain ⟨rs, fs⟩ := satB tI (Rat.le_trans (by decide +kernel) hw2) h1 hη (by decide +kernel)
    have q1 : 157 / 100 ≤ 2 * qq := by decide +kernel
    have q2 : 2 * qq ≤ 158 / 100 := by decide +kernel
    obtain ⟨rr, fr⟩ := half_sub fs rs (by generalize 2 * qq = Q at *; grind) (by generalize 2 * qq = Q at *; grind) (by decide +kernel) (E := 76 * uq) (by decide +kernel)
    rw [show 2 * qq - (2 * qq - w) = w by generalize 2 * qq = Q; grind] at rr
    exact ⟨rr, fr⟩
  · rw [if_neg (by simp [hcmp])]
    have tI : fdiv s c < INF := fdiv_fin hle c1 (by decide) (by decide) hcI (by decide +kernel)
    have hq := quo_lin ht kc.1 (by decide +kernel) (ε := 13 * uq) (by decide +kernel) (by decide +kernel)
    have hb := div_bd (x := vq s) (y := vq c) (A := 801 / 1000) (d := 59 / 100) ⟨Rat.le_trans (by decide +kernel) ks0, ks⟩ (by decide +kernel) kc.1 (R := 136 / 100) (by decide +kernel) (by decide +kernel)
    have rt := q_div (Fw.pos hs) hcI (Nat.lt_of_lt_of_le (by decide) c1) (Fw.pos tI) hb.1 hb.2
    have hη := add_er rt hq (E := 15 * uq) (by decide +kernel)
    obtain ⟨rs, fs⟩ := satA tI h0 h1 hη (by decide +kernel)
    exact ⟨rs.weak (by decide +kernel), fs⟩

end Go.Proofs.YtgbdplmpojkklaaDoor

namespace Go.Proofs.YtgbdplmpojkklaaDoor
open Ieee

-- ASIN NEAR THE COSINE
def H9 : Nat := 4607132879204116333
theorem cos_high {S C e : Rat} (hS : 111 / 1000 ≤ S) (he : e ≤ 1 / 10000) (h : S * S + C * C - 1 ≤ e) : C ≤ 994 / 1000 := by
  rcases Rat.le_total (a := C) (b := 994 / 1000) with h2 | h2
  · exact h2
  · have m1 := Rat.mul_nonneg (show 0 ≤ C - 994 / 1000 by grind) (show 0 ≤ C - 994 / 1000 by grind)
    have m2 := Rat.mul_nonneg (show 0 ≤ S - 111 / 1000 by grind) (show 0 ≤ S - 111 / 1000 by grind)
    grind
theorem root_C {s : Nat} {S C : Rat} (hs : s < INF) (h : Er s C (11 / 4 * uq)) (S0 : 111 / 1000 ≤ S) (hC : 705 / 1000 ≤ C) (hr : -(1 / 4 * uq) ≤ S * S + C * C - 1 ∧ S * S + C * C - 1 ≤ 1 / 4 * uq) :
    C7 < s ∧ s ≤ H9 ∧ 4592211486216339344 ≤ fsqrt (fsub one (fmul s s)) ∧ fsqrt (fsub one (fmul s s)) ≤ 4604607646427212145 ∧ (-(39 * uq) ≤ vq (fsqrt (fsub one (fmul s s))) - S ∧ vq (fsqrt (fsub one (fmul s s))) - S ≤ 39 * uq) := by
  have hH9 : H9 < INF := by decide
  have hC2 := cos_high S0 (by decide +kernel) hr.2
  have ku : (11 / 4 * uq : Rat) ≤ 1 / 10000 := by decide +kernel
  have ks : 7048 / 10000 ≤ vq s ∧ vq s ≤ 9942 / 10000 := by
    obtain ⟨h1, h2⟩ := h
    clear hr
    generalize (11 / 4 * uq : Rat) = u at *
    generalize vq s = x at *
    constructor <;> grind
  have hle : s ≤ H9 := nat_of_q hs hH9 (Rat.le_trans ks.2 (by decide +kernel))
  have hge : C7 + 1 ≤ s := nat_of_q (by decide) hs (Rat.le_trans (by decide +kernel) ks.1)
  have hge7 : C7 ≤ s := Nat.le_of_lt hge
  obtain ⟨m, dm⟩ : ∃ m, m = fmul s s := ⟨_, rfl⟩
  have hm1 : m ≤ 4607083612075992714 := by rw [dm]; exact Nat.le_trans (fmul_mono hH9 hH9 hle hle) (by decide +kernel)
  have hm0 : 4602498675187552091 ≤ m := by rw [dm]; exact Nat.le_trans (by decide +kernel) (fmul_mono hs hs hge7 hge7)
  have im : In m 4602498675187552091 4607083612075992714 := In.ofPos2 hm0 hm1 (by decide)
  have kss : -(9942 / 10000) ≤ vq s ∧ vq s ≤ 9942 / 10000 := ⟨Rat.le_trans (by decide +kernel) ks.1, ks.2⟩
  have ss := prod_abs kss kss
  have rm := (q_mul (Fw.pos hs) (Fw.pos hs) (by rw [← dm]; exact im.1) ss.1 ss.2).weak (e' := 99 / 100 * uq) (by decide +kernel)
  rw [← dm] at rm
  obtain ⟨d, dd⟩ : ∃ d, d = fsub one m := ⟨_, rfl⟩
  have id : In d 4577477252118633856 4602768891165194322 := by
    rw [dd]; exact In_sub (In.const (Fw.of (by decide +kernel))) im (Fw.of (by decide +kernel)) (Fw.of (by decide +kernel)) (Fw.of (by decide +kernel)) (Fw.of (by decide +kernel)) (by decide +kernel) (by decide +kernel) (Fw.of (by decide +kernel)) (Fw.of (by decide +kernel))
  have kd := dif_T (In.const (c := one) (Fw.of (by decide +kernel))) im (T := 511 / 1000) (by decide +kernel) (by decide +kernel)
  have rd := (q_sub (Fw.of (by decide +kernel)) im.1 (by rw [← dd]; exact id.1) kd.1 kd.2).weak (e' := 512 / 1000 * uq) (by decide +kernel)
  rw [← dd, show vq one = 1 by decide +kernel] at rd
  obtain ⟨p1, p2⟩ := id.pos (by decide) (by decide) (by decide)
  have hdI : d < INF := Nat.lt_of_le_of_lt p2 (by decide)
  obtain ⟨c, dc⟩ : ∃ c, c = fsqrt d := ⟨_, rfl⟩
  have c1 : 4592211486216339344 ≤ c := by rw [dc]; exact Nat.le_trans (by decide +kernel) (fsqrt_mono hdI p1)
  have c2 : c ≤ 4604607646427212145 := by rw [dc]; exact Nat.le_trans (fsqrt_mono (by decide) p2) (by decide +kernel)
  have hcI : c < INF := Nat.lt_of_le_of_lt c2 (by decide)
  have ic : In c 4592211486216339344 4604607646427212145 := In.ofPos2 c1 c2 (by decide)
  have kc := ic.qb (l := 104 / 1000) (u := 7142 / 10000) (by decide +kernel) (by decide +kernel)
  have kcc : -(7142 / 10000) ≤ vq c ∧ vq c ≤ 7142 / 10000 := ⟨Rat.le_trans (by decide +kernel) kc.1, kc.2⟩
  have cc := prod_abs kcc kcc
  have re := root_er hdI (Nat.lt_of_lt_of_le (by decide) p1) dc (Nat.le_trans (by decide) c1) hcI cc.2
  have hsum : -(1989 / 1000) ≤ vq s + C ∧ vq s + C ≤ 1989 / 1000 := by constructor <;> grind
  have hr2 : -(1 / 4 * uq) ≤ C * C + S * S - 1 ∧ C * C + S * S - 1 ≤ 1 / 4 * uq := by
    rw [show C * C + S * S = S * S + C * C by grind]; exact hr
  have hq := sqr_lin h hsum rm rd re hr2 (E := 83 / 10 * uq) (by decide +kernel)
  have hn := root_near hq (k := 215 / 1000) (ε := 39 * uq) (by grind) (by decide +kernel) (by decide +kernel) (by decide +kernel)
  have e : fsqrt (fsub one (fmul s s)) = c := by rw [dc, dd, dm]
  rw [e]
  exact ⟨hge, hle, c1, c2, hn⟩

theorem asin_C {s : Nat} {w : Rat} (hs : s < INF) (h0 : 1 / 8 ≤ w) (h1 : w ≤ 7855 / 10000) (h : Er s (cQ w) (11 / 4 * uq)) : Er (asinA s) (2 * qq - w) (202 * uq) ∧ Fw (asinA s) := by
  have hw0 : 0 ≤ w := Rat.le_trans (by decide +kernel) h0
  have hw : -(7855 / 10000) ≤ w ∧ w ≤ 7855 / 10000 := ⟨Rat.le_trans (by decide +kernel) h0, h1⟩
  obtain ⟨s0, s1⟩ := sQ_rng hw0 h1
  have hC := cQ_rng hw
  have hS : 111 / 1000 ≤ sQ w := by generalize sQ w = y at *; grind
  obtain ⟨hge, hle, c1, c2, hc⟩ := root_C hs h hS hC.1 (rndQ hw)
  obtain ⟨c, dc⟩ : ∃ c, c = fsqrt (fsub one (fmul s s)) := ⟨_, rfl⟩
  rw [← dc] at c1 c2 hc
  have hcI : c < INF := Nat.lt_of_le_of_lt c2 (by decide)
  have ic : In c 4592211486216339344 4604607646427212145 := In.ofPos2 c1 c2 (by decide)
  have kc := ic.qb (l := 104 / 1000) (u := 7142 / 10000) (by decide +kernel) (by decide +kernel)
  have k7 : 6999 / 10000 ≤ vq s := Rat.le_trans (by decide +kernel) (q_of_nat hs (Nat.le_of_lt hge))
  have hT := fT_rng hw0 h1
  have hc2 : sQ w - 39 * uq ≤ vq c ∧ vq c ≤ sQ w + 39 * uq := by
    generalize sQ w = y at *
    generalize vq c = x at *
    generalize 39 * uq = u at *
    constructor <;> grind
  have ht := ttc_lin hc2 (er_dif h) (etaQ hw) ⟨Rat.le_trans (by decide +kernel) (Rat.le_trans hw0 hT.1), hT.2⟩ (E := 43 * uq) (by decide +kernel)
  unfold asinA
  have eg := fgt_pos false s C7 (Nat.le_of_lt hs) (by decide)
  rw [word_false] at eg
  rw [show (4604480259023595110 : Nat) = C7 from rfl, eg, ← dc, if_pos (by simp [hge])]
  have tI : fdiv c s < INF := fdiv_fin c2 (Nat.le_of_lt hge) (by decide) (by decide) hs (by decide +kernel)
  have hq := quo_lin ht k7 (by decide +kernel) (ε := 62 * uq) (by decide +kernel) (by decide +kernel)
  have hb := div_bd (x := vq c) (y := vq s) (A := 7142 / 10000) (d := 6999 / 10000) ⟨Rat.le_trans (by decide +kernel) kc.1, kc.2⟩ (by decide +kernel) k7 (R := 103 / 100) (by decide +kernel) (by decide +kernel)
  have rt := q_div (Fw.pos hcI) hs (Nat.lt_of_le_of_lt (Nat.zero_le _) hge) (Fw.pos tI) hb.1 hb.2
  have hη := add_er rt hq (E := 64 * uq) (by decide +kernel)
  obtain ⟨rs, fs⟩ := satA tI hw0 h1 hη (by decide +kernel)
  exact half_sub fs rs hw0 (Rat.le_trans h1 (by decide +kernel)) (by decide +kernel) (by decide +kernel)

-- WORDS BY THEIR SIGN
theorem pos_word {x : Nat} (fx : Fw x) (h : 0 < vq x) : x < INF ∧ 0 < x := by
  obtain ⟨s, r, hr, rfl⟩ := fx
  obtain ⟨e, h0⟩ := vq_word_abs s hr
  cases s
  · rw [word_false] at h ⊢
    refine ⟨hr, Nat.pos_of_ne_zero fun hz => ?_⟩
    rw [hz] at h
    exact absurd h (by decide +kernel)
  · have e2 : vq (double.word true r) = -vq r := vqN hr
    rw [e2] at h
    exfalso
    generalize vq r = x at *
    grind
theorem neg_word {x : Nat} (fx : Fw x) (h : vq x < 0) : ∃ b, b < INF ∧ 0 < b ∧ x = N b ∧ vq b = -vq x := by
  obtain ⟨s, r, hr, rfl⟩ := fx
  obtain ⟨e, h0⟩ := vq_word_abs s hr
  cases s
  · exfalso
    rw [word_false] at h
    generalize vq r = x at *
    grind
  · have e2 : vq (double.word true r) = -vq r := vqN hr
    refine ⟨r, hr, Nat.pos_of_ne_zero fun hz => ?_, rfl, ?_⟩
    · rw [e2, hz] at h
      exact absurd h (by decide +kernel)
    · rw [e2]; grind

-- THE TANGENT'S INVERSE
theorem inv_B {T : Rat} (h : 57 / 100 ≤ T) : 1 / T * T = 1 ∧ 0 ≤ 1 / T ∧ 1 / T ≤ 18 / 10 := by
  have e : 1 / T * T = 1 := by
    have : T ≠ 0 := by grind
    grind
  generalize 1 / T = i at *
  have i0 : 0 ≤ i := by
    rcases Rat.le_total (a := 0) (b := i) with h2 | h2
    · exact h2
    · have := Rat.mul_nonneg (show 0 ≤ -i by grind) (show 0 ≤ T by grind)
      grind
  have m := Rat.mul_nonneg i0 (show 0 ≤ T - 57 / 100 by grind)
  refine ⟨e, i0, ?_⟩
  grind
theorem inv_tan {b T δ : Rat} (h : -δ ≤ b - T ∧ b - T ≤ δ) (hT : 57 / 100 ≤ T) : -(18 / 10 * δ) ≤ 1 - 1 / T * b ∧ 1 - 1 / T * b ≤ 18 / 10 * δ := by
  obtain ⟨e, i0, i1⟩ := inv_B hT
  generalize 1 / T = i at *
  have m := prod_abs (show -(18 / 10) ≤ i ∧ i ≤ 18 / 10 by constructor <;> grind) h
  have e1 : i * (b - T) = i * b - i * T := by grind
  rw [e1, e] at m
  generalize i * b = u at *
  clear e e1 h
  constructor <;> grind
theorem atan_B {b : Nat} {w : Rat} (hb : b < INF) (hb0 : 0 < b) (h0 : 57 / 100 ≤ w) (h1 : w ≤ 7855 / 10000) (h : Er b (fT w) (4 * uq)) : fdiv ONE b < INF ∧ Er (satanF (fdiv ONE b)) (2 * qq - w) (64 * uq) ∧ Fw (satanF (fdiv ONE b)) := by
  have hT := fT_rng (Rat.le_trans (by decide +kernel) h0) h1
  have hT2 := Rat.le_trans h0 hT.1
  have kb : 56 / 100 ≤ vq b := by
    have h2 := h.1
    have : 4 * uq ≤ 1 / 100 := by decide +kernel
    generalize 4 * uq = u at *
    generalize fT w = y at *
    grind
  have hbn : 4603219251127414292 ≤ b := nat_of_q (by decide) hb (Rat.le_trans (by decide +kernel) kb)
  have tI : fdiv ONE b < INF := fdiv_fin (Nat.le_refl _) hbn (by decide) (by decide) hb (by decide +kernel)
  have hq := quo_lin (inv_tan (er_dif h) hT2) kb (by decide +kernel) (ε := 13 * uq) (by decide +kernel) (by decide +kernel)
  have e1 : vq ONE = 1 := by decide +kernel
  have hd := div_bd (x := vq ONE) (y := vq b) (A := 1) (d := 56 / 100) (by rw [e1]; decide +kernel) (by decide +kernel) kb (R := 18 / 10) (by decide +kernel) (by decide +kernel)
  have rt := q_div (Fw.pos ONE_lt) hb hb0 (Fw.pos tI) hd.1 hd.2
  rw [e1] at rt
  have hη := add_er rt hq (E := 15 * uq) (by decide +kernel)
  obtain ⟨rs, fs⟩ := satB tI h0 h1 hη (by decide +kernel)
  exact ⟨tI, rs.weak (by decide +kernel), fs⟩

-- THE REDUCED NUMBER
theorem chain3 {R a b c p q s Q d E : Rat} (h1 : R - p - d ≤ a ∧ a ≤ R - p + d) (h2 : a - q - d ≤ b ∧ b ≤ a - q + d) (h3 : b - s - d ≤ c ∧ c ≤ b - s + d) {g : Rat} (h4 : -g ≤ p + q + s - Q ∧ p + q + s - Q ≤ g) (hE : 3 * d + g ≤ E) : R - Q - E ≤ c ∧ c ≤ R - Q + E := by constructor <;> grind
theorem red_J {r : Nat} (h : r ≤ ONE) : smJ r = 0 ∨ (smJ r = 1 ∧ 4605245820700000000 ≤ r) := by
  have h1 : fmul r M4PI ≤ fmul ONE M4PI := fmul_mono ONE_lt (by decide) h (Nat.le_refl _)
  have h2 : V (fmul ONE M4PI) < 2 * U := by decide +kernel
  have h3 := V_le h1
  show truncF (fmul r M4PI) = 0 ∨ (truncF (fmul r M4PI) = 1 ∧ _)
  unfold truncF
  have hU := U_pos
  by_cases hc : V (fmul r M4PI) < U
  · exact .inl (Nat.div_eq_of_lt hc)
  · right
    constructor
    · have a1 : V (fmul r M4PI) / U < 2 := (Nat.div_lt_iff_lt_mul hU).2 (Nat.lt_of_le_of_lt h3 h2)
      have a2 : 1 ≤ V (fmul r M4PI) / U := (Nat.le_div_iff_mul_le hU).2 (by omega)
      omega
    · refine Nat.le_of_not_lt fun hh => hc ?_
      refine Nat.lt_of_le_of_lt (V_le (fmul_mono (a' := 4605245820700000000) (b' := M4PI) (by decide) (by decide) (Nat.le_of_lt hh) (Nat.le_refl _))) (by decide +kernel)
theorem red_29 {r : Nat} (h : r ≤ ONE) : fge r TH29 = false := by
  have h1 : ONE < TH29 := by decide
  have h2 := ONE_lt
  rw [fge_TH (by omega)]
  exact decide_eq_false (by omega)
theorem red_A {r : Nat} (h : r ≤ ONE) (hJ : smJ r = 0) : redJ r = 0 ∧ redZ r = r ∧ redT r = 0 := by
  have hr : r < INF := Nat.lt_of_le_of_lt h ONE_lt
  have hb := red_29 h
  have hY : smY r = 0 := by unfold smY; rw [hJ]; decide +kernel
  have hK : smK r = 0 := by unfold smK; rw [hJ]; decide
  refine ⟨?_, ?_, ?_⟩
  · unfold redJ; rw [hb, hK]; rfl
  · unfold redZ smZ
    rw [hb, hY, fmul_zero (by decide), fmul_zero (by decide), fmul_zero (by decide), fsub_zero hr, fsub_zero hr, fsub_zero hr]; rfl
  · unfold redT; rw [hb, hK]; rfl
theorem red_B {r : Nat} (h : r ≤ ONE) (hJ : smJ r = 1) (hlo : 4605245820700000000 ≤ r) : redJ r = 2 ∧ redT r = 2 ∧ Er (redZ r) (vq r - 2 * qq) (5 * uq) := by
  have hr : r < INF := Nat.lt_of_le_of_lt h ONE_lt
  have hb := red_29 h
  have hY : smY r = 4611686018427387904 := by unfold smY; rw [hJ]; decide +kernel
  have hK : smK r = 2 := by unfold smK; rw [hJ]; decide
  refine ⟨?_, ?_, ?_⟩
  · unfold redJ; rw [hb, hK]; rfl
  · unfold redT; rw [hb, hK]; rfl
  · have ir : In r 4605245820700000000 ONE := In.ofPos2 hlo h ONE_lt
    unfold redZ smZ
    rw [hb, hY, if_neg (by decide), show fmul 4611686018427387904 4605249456957292544 = 4609753056584663040 by decide +kernel, show fmul 4611686018427387904 4495793288086814720 = 4500296887714185216 by decide +kernel, show fmul 4611686018427387904 4388835458085048688 = 4393339057712419184 by decide +kernel]
    obtain ⟨a, da⟩ : ∃ a, a = fsub r 4609753056584663040 := ⟨_, rfl⟩
    have ia : In a (fsub 4605245820700000000 4609753056584663040) (fsub ONE 4609753056584663040) := by
      rw [da]; exact In_sub ir (In.const (Fw.of (by decide +kernel))) (Fw.of (by decide +kernel)) (Fw.of (by decide +kernel)) (Fw.of (by decide +kernel)) (Fw.of (by decide +kernel)) rfl rfl (Fw.of (by decide +kernel)) (Fw.of (by decide +kernel))
    have ta := dif_T ir (In.const (c := 4609753056584663040) (Fw.of (by decide +kernel))) (T := 8 / 10) (by decide +kernel) (by decide +kernel)
    have ra := (q_sub ir.1 (Fw.of (by decide +kernel)) (by rw [← da]; exact ia.1) ta.1 ta.2).weak (e' := uq) (by decide +kernel)
    rw [← da] at ra ⊢
    obtain ⟨b, db⟩ : ∃ b, b = fsub a 4500296887714185216 := ⟨_, rfl⟩
    have ib : In b (fsub (fsub 4605245820700000000 4609753056584663040) 4500296887714185216) (fsub (fsub ONE 4609753056584663040) 4500296887714185216) := by
      rw [db]; exact In_sub ia (In.const (Fw.of (by decide +kernel))) (Fw.of (by decide +kernel)) (Fw.of (by decide +kernel)) (Fw.of (by decide +kernel)) (Fw.of (by decide +kernel)) rfl rfl (Fw.of (by decide +kernel)) (Fw.of (by decide +kernel))
    have tb := dif_T ia (In.const (c := 4500296887714185216) (Fw.of (by decide +kernel))) (T := 8 / 10) (by decide +kernel) (by decide +kernel)
    have rb := (q_sub ia.1 (Fw.of (by decide +kernel)) (by rw [← db]; exact ib.1) tb.1 tb.2).weak (e' := uq) (by decide +kernel)
    rw [← db] at rb ⊢
    obtain ⟨c, dc⟩ : ∃ c, c = fsub b 4393339057712419184 := ⟨_, rfl⟩
    have ic : Fw c := by
      rw [dc]; exact (In_sub ib (In.const (Fw.of (by decide +kernel))) (Fw.of (by decide +kernel)) (Fw.of (by decide +kernel)) (Fw.of (by decide +kernel)) (Fw.of (by decide +kernel)) rfl rfl (Fw.of (by decide +kernel)) (Fw.of (by decide +kernel))).1
    have tc := dif_T ib (In.const (c := 4393339057712419184) (Fw.of (by decide +kernel))) (T := 8 / 10) (by decide +kernel) (by decide +kernel)
    have rc := (q_sub ib.1 (Fw.of (by decide +kernel)) (by rw [← dc]; exact ic) tc.1 tc.2).weak (e' := uq) (by decide +kernel)
    rw [← dc] at rc ⊢
    exact chain3 ra rb rc (g := uq) (by decide +kernel) (by decide +kernel)

end Go.Proofs.YtgbdplmpojkklaaDoor

namespace Go.Proofs.YtgbdplmpojkklaaDoor
open Ieee

theorem near_45 {y : Nat} (f : Fw y) (h : Bd y (1 / 2 ^ 45)) : fle (sizeF y) 4404520435568345088 = true := by
  obtain ⟨s, r, hr, rfl⟩ := f
  rw [sizeF_word s r (Nat.le_of_lt hr)]
  have hv : vq r ≤ vq 4404520435568345088 := by
    have e2 : vq 4404520435568345088 = 1 / 2 ^ 45 := by decide +kernel
    rw [e2]
    obtain ⟨hl, hu⟩ := h
    rcases (vq_word_abs s hr).1 with e | e
    · rw [e] at hu; exact hu
    · rw [e] at hl
      generalize (1 / 2 ^ 45 : Rat) = k at *
      generalize vq r = x at *
      grind
  have h3 := nat_of_q hr (by decide) hv
  have e := fle_pos false r 4404520435568345088 (Nat.le_of_lt hr) (by decide)
  rw [word_false] at e
  rw [e]; simp; exact h3
theorem bd_lin {v d e f E : Rat} (h : d - f ≤ v ∧ v ≤ d + f) (h2 : -e ≤ d ∧ d ≤ e) (hE : e + f ≤ E) : -E ≤ v ∧ v ≤ E := by constructor <;> grind
/-- A computed number near the given one. -/
theorem back_fin {a r : Nat} (fa : Fw a) (hr : r ≤ ONE) (h : Er a (vq r) (220 * uq)) : fle (sizeF (fsub a r)) 4404520435568345088 = true := by
  have ir : In r 0 ONE := In.ofPos2 (Nat.zero_le _) hr ONE_lt
  have kr := ir.qb (l := 0) (u := 1) (by decide +kernel) (by decide +kernel)
  have ka : -(1 / 100) ≤ vq a ∧ vq a ≤ 101 / 100 := by
    obtain ⟨h1, h2⟩ := h
    have : 220 * uq ≤ 1 / 100 := by decide +kernel
    generalize 220 * uq = u at *
    generalize vq r = x at *
    generalize vq a = y at *
    constructor <;> grind
  have ia : In a 13830554455654793216 4611686018427387904 := In.ofQ fa ka (by decide +kernel) (by decide +kernel)
  have fd : Fw (fsub a r) := (In_sub ia ir (Fw.of (by decide +kernel)) (Fw.of (by decide +kernel)) (Fw.of (by decide +kernel)) (Fw.of (by decide +kernel)) rfl rfl (Fw.of (by decide +kernel)) (Fw.of (by decide +kernel))).1
  have hd := er_dif h
  have rd := q_sub fa ir.1 fd hd.1 hd.2
  exact near_45 fd (bd_lin rd hd (by decide +kernel))

theorem Er.shift {x : Nat} {p q e f E : Rat} (h : Er x p e) (h2 : -f ≤ p - q ∧ p - q ≤ f) (hE : e + f ≤ E) : Er x q E := by
  unfold Er at *
  constructor <;> grind
theorem Er.negw {x : Nat} {p e : Rat} (h : Er x p e) (fx : Fw x) : Er (fneg x) (-p) e := by
  unfold Er at *
  rw [vq_fneg fx]
  constructor <;> grind
theorem big_of {x p e k : Rat} (h : p - e ≤ x ∧ x ≤ p + e) (hp : k ≤ p) (hk : e < k) : 0 < x := by grind

/-- What is shown for the positive number. -/
structure Back (r s t c : Nat) : Prop where
  s0 : 0 < s
  s1 : s ≤ ONE
  a : Er (asinA s) (vq r) (220 * uq)
  fa : Fw (asinA s)
  t1 : t < INF
  b : Er (satanF t) (vq r) (220 * uq)
  fb : Fw (satanF t)
  c0 : 0 < c
  c1 : c ≤ ONE
  c : 4593671619917905920 ≤ r → Er (fsub 4609753056924675352 (asinA c)) (vq r) (220 * uq) ∧ Fw (fsub 4609753056924675352 (asinA c))

theorem back_A {r : Nat} (h : r ≤ ONE) (hlo : 4481081629233643520 ≤ r) (hz : In r 13828622411414651273 4605250374559875465) : Back r (sinP r) (tanP r) (cosP r) := by
  have hr : r < INF := Nat.lt_of_le_of_lt h ONE_lt
  obtain ⟨rs, fs⟩ := sin_z hz
  obtain ⟨rc, fc⟩ := cos_z hz
  obtain ⟨rt, ft⟩ := tan_z hz
  have hw1 := (z_rng hz).2
  have hwl : 1 / 268435456 ≤ vq r := Rat.le_trans (by decide +kernel) (q_of_nat hr hlo)
  have hw0 : 0 ≤ vq r := Rat.le_trans (by decide +kernel) hwl
  have sr := sQ_rng hw0 hw1
  have tr := fT_rng hw0 hw1
  have ps := pos_word fs (big_of rs (k := 1 / 1000000000) (by generalize sQ (vq r) = y at *; generalize vq r = x at *; grind) (by decide +kernel))
  have pt := pos_word ft (big_of rt (k := 1 / 1000000000) (by generalize fT (vq r) = y at *; generalize vq r = x at *; grind) (by decide +kernel))
  have hc := (cosP_in hz).pos (by decide) (by decide) (by decide)
  have hcI : cosP r < INF := Nat.lt_of_le_of_lt hc.2 (by decide)
  obtain ⟨ra, fa⟩ := asin_S ps.1 hw0 hw1 rs
  obtain ⟨rb, fb⟩ := satA pt.1 hw0 hw1 (er_dif rt) (by decide +kernel)
  refine ⟨ps.2, ?_, ra.weak (by decide +kernel), fa, pt.1, rb.weak (by decide +kernel), fb, Nat.lt_of_lt_of_le (by decide) hc.1, cosP_one hz, ?_⟩
  · refine nat_of_q ps.1 ONE_lt (Rat.le_trans rs.2 ?_)
    have e1 : vq ONE = 1 := by decide +kernel
    have e2 : 5 / 4 * uq ≤ 1 / 100 := by decide +kernel
    rw [e1]
    generalize 5 / 4 * uq = u at *
    generalize sQ (vq r) = y at *
    generalize vq r = x at *
    clear tr rt rc
    grind
  · intro h8
    have hw8 : 1 / 8 ≤ vq r := Rat.le_trans (by decide +kernel) (q_of_nat hr h8)
    obtain ⟨r1, f1⟩ := asin_C hcI hw8 hw1 rc
    have q1 : 157 / 100 ≤ 2 * qq := by decide +kernel
    have q2 : 2 * qq ≤ 158 / 100 := by decide +kernel
    obtain ⟨r2, f2⟩ := half_sub f1 r1 (by generalize 2 * qq = Q at *; generalize vq r = x at *; grind) (by generalize 2 * qq = Q at *; generalize vq r = x at *; grind) (by decide +kernel) (E := 205 * uq) (by decide +kernel)
    rw [show 2 * qq - (2 * qq - vq r) = vq r by generalize 2 * qq = Q; generalize vq r = x; grind] at r2
    exact ⟨r2.weak (by decide +kernel), f2⟩

theorem back_B {r z : Nat} (h : r ≤ ONE) (hz : In z 13828622411414651273 4605250374559875465) (rz : Er z (vq r - 2 * qq) (5 * uq)) : ∃ b, b < INF ∧ 0 < b ∧ tanP z = N b ∧ Back r (cosP z) (fdiv ONE b) (fneg (sinP z)) := by
  have hr : r < INF := Nat.lt_of_le_of_lt h ONE_lt
  have kr : vq r ≤ 1 := Rat.le_trans (q_of_nat ONE_lt h) (by decide +kernel)
  obtain ⟨rs, fs⟩ := sin_z hz
  obtain ⟨rc, fc⟩ := cos_z hz
  obtain ⟨rt, ft⟩ := tan_z hz
  obtain ⟨w, ew⟩ : ∃ w, w = -vq z := ⟨_, rfl⟩
  have ez : vq z = -w := by rw [ew]; grind
  have hw1 : w ≤ 7855 / 10000 := by have := (z_rng hz).1; rw [ez] at this; grind
  have hwl : 57 / 100 ≤ w := by
    have h2 := rz.2
    have : 5 * uq ≤ 1 / 10000 := by decide +kernel
    have q1 : 15707 / 10000 ≤ 2 * qq := by decide +kernel
    rw [ez] at h2
    generalize 5 * uq = u at *
    generalize 2 * qq = Q at *
    generalize vq r = x at *
    clear rs rc rt
    grind
  have hw0 : 0 ≤ w := Rat.le_trans (by decide +kernel) hwl
  have hsh : -(5 * uq) ≤ (2 * qq - w) - vq r ∧ (2 * qq - w) - vq r ≤ 5 * uq := by
    obtain ⟨h1, h2⟩ := rz
    rw [ez] at h1 h2
    generalize 5 * uq = u at *
    generalize 2 * qq = Q at *
    generalize vq r = x at *
    clear rs rc rt
    constructor <;> grind
  rw [ez, sQ_neg] at rs
  rw [ez, cQ_neg] at rc
  rw [ez, fT_neg] at rt
  have rs2 := rs.negw fs
  have fs2 := fs.neg
  rw [show - -sQ w = sQ w by generalize sQ w = y; grind] at rs2
  have sr := sQ_rng hw0 hw1
  have tr := fT_rng hw0 hw1
  have ps := pos_word fs2 (big_of rs2 (k := 1 / 1000000000) (by generalize sQ w = y at *; clear tr rt rc; grind) (by decide +kernel))
  obtain ⟨b, hb, hb0, eb, vb⟩ := neg_word ft (by
    have h2 := rt.2
    have : 4 * uq ≤ 1 / 10000 := by decide +kernel
    generalize 4 * uq = u at *
    generalize fT w = y at *
    generalize vq (tanP z) = x at *
    clear rs rc sr
    grind)
  have rb : Er b (fT w) (4 * uq) := by
    unfold Er at rt ⊢
    rw [vb]
    generalize 4 * uq = u at *
    generalize fT w = y at *
    generalize vq (tanP z) = x at *
    clear rs rc sr
    constructor <;> grind
  obtain ⟨tI, rB, fB⟩ := atan_B hb hb0 hwl hw1 rb
  have hc := (cosP_in hz).pos (by decide) (by decide) (by decide)
  have hcI : cosP z < INF := Nat.lt_of_le_of_lt hc.2 (by decide)
  obtain ⟨r1, f1⟩ := asin_C hcI (Rat.le_trans (by decide +kernel) hwl) hw1 rc
  obtain ⟨r2, f2⟩ := asin_S ps.1 hw0 hw1 rs2
  obtain ⟨r3, f3⟩ := half_sub f2 r2 hw0 (Rat.le_trans hw1 (by decide +kernel)) (by decide +kernel) (E := 80 * uq) (by decide +kernel)
  refine ⟨b, hb, hb0, eb, Nat.lt_of_lt_of_le (by decide) hc.1, cosP_one hz, r1.shift hsh (by decide +kernel), f1, tI, rB.shift hsh (by decide +kernel), fB, ps.2, ?_, fun _ => ⟨r3.shift hsh (by decide +kernel), f3⟩⟩
  refine nat_of_q ps.1 ONE_lt (Rat.le_trans rs2.2 ?_)
  have e1 : vq ONE = 1 := by decide +kernel
  have e2 : 5 / 4 * uq ≤ 1 / 100 := by decide +kernel
  rw [e1]
  generalize 5 / 4 * uq = u at *
  generalize sQ w = y at *
  clear tr rt rc rs rs2
  grind

theorem negIf_w (s : Bool) {r : Nat} (h : r < INF) : negIf s r = double.word s r := by
  have := negIf_word s false h
  rw [word_false, Bool.xor_false] at this; exact this
theorem back_all (s : Bool) {r : Nat} (h : r ≤ ONE) (hlo : 4481081629233643520 ≤ r) : ∃ a t c, Back r a t c ∧ sinR s r = double.word s a ∧ tanR s r = double.word s t ∧ cosR r = c := by
  have hr : r < INF := Nat.lt_of_le_of_lt h ONE_lt
  have hz := redZ_in hr
  rcases red_J h with hJ | ⟨hJ, hl⟩
  · obtain ⟨e1, e2, e3⟩ := red_A h hJ
    rw [e2] at hz
    have hB := back_A h hlo hz
    refine ⟨_, _, _, hB, ?_, ?_, ?_⟩
    · unfold sinR; rw [e1, e2]
      show negIf (s ^^ false) (sinP r) = _
      rw [Bool.xor_false]; exact negIf_w s (Nat.lt_of_le_of_lt hB.s1 ONE_lt)
    · unfold tanR; rw [e3, e2]
      show negIf s (tanP r) = _
      exact negIf_w s hB.t1
    · unfold cosR; rw [e1, e2]; rfl
  · obtain ⟨e1, e3, rz⟩ := red_B h hJ hl
    obtain ⟨b, hb, hb0, eb, hB⟩ := back_B h hz rz
    refine ⟨_, _, _, hB, ?_, ?_, ?_⟩
    · unfold sinR; rw [e1]
      show negIf (s ^^ false) (cosP (redZ r)) = _
      rw [Bool.xor_false]; exact negIf_w s (Nat.lt_of_le_of_lt hB.s1 ONE_lt)
    · unfold tanR; rw [e3, eb, oneN_eq]
      show negIf s (fdiv (double.word true ONE) (double.word true b)) = _
      rw [fdiv_word true true ONE_lt hb hb0]
      exact negIf_w s hB.t1
    · unfold cosR; rw [e1]; rfl

theorem arcBack_plain (x : Nat) (h : x < 18446744073709551616) : arcBackF x = true := by
  unfold arcBackF
  rcases word_cases x h with hn | ⟨s, r, hr, rfl, hn⟩
  · rw [isNanF_eq x h, hn, Bool.or_true]; rfl
  · rw [beyondF_word s r hr, isNanF_word s r hr]
    by_cases h1 : r ≤ ONE
    · rw [decide_eq_false (Nat.not_lt_of_le h1)]
      have hI : r < INF := Nat.lt_of_le_of_lt h1 ONE_lt
      show (_ && _ && _ && _) = true
      rw [sizeF_word s r hr]
      have e8 := flt_pos false r 4593671619917905920 hr (by decide) (by decide)
      rw [word_false] at e8
      rw [e8]
      by_cases hlo : r < Z28
      · obtain ⟨f1, f2, f3, f4, f5⟩ := near_facts s hlo
        have e0 : fle (sizeF (fsub (double.word s r) (double.word s r))) 4404520435568345088 = true := by
          rw [size_sub s hI hI, fsub_self hI]; decide +kernel
        have h8 : r < 4593671619917905920 := Nat.lt_trans hlo (by decide)
        rw [f1, f2, f3, f4, e0, decide_eq_true h8]
        by_cases hz : r = 0
        · rw [feq_zero s r hr, decide_eq_true hz]; rfl
        · rw [fne_word0 s hI (Nat.pos_of_ne_zero hz)]; simp
      · have hlo2 : 4481081629233643520 ≤ r := Nat.le_of_not_lt hlo
        have h0 : r ≠ 0 := by intro e; rw [e] at hlo; exact hlo (by decide)
        obtain ⟨a, t, c, hB, es, et, ec⟩ := back_all s h1 hlo2
        rw [sinF_word s hI h0, tanF_word s hI h0, cosF_word s hI, es, et, ec, asin_word s hB.s1 hB.s0, atan_word s (Nat.le_of_lt hB.t1)]
        have la := (asinA_le hB.s1 hB.s0).1
        have lI : asinA a < INF := Nat.lt_of_le_of_lt la (by decide)
        have lb : satanF t < INF := Nat.lt_of_le_of_lt (satan_le (Nat.le_of_lt hB.t1)) (by decide)
        rw [size_sub s lI hI, size_sub s lb hI, back_fin hB.fa h1 hB.a, back_fin hB.fb h1 hB.b]
        have pa : 0 < asinA a := by
          have hwl : 1 / 268435456 ≤ vq r := Rat.le_trans (by decide +kernel) (q_of_nat hI hlo2)
          exact (pos_word hB.fa (big_of hB.a hwl (by decide +kernel))).2
        rw [fne_word0 s lI pa, Bool.or_true, Bool.and_true, Bool.and_true, Bool.true_and]
        by_cases h8 : r < 4593671619917905920
        · rw [decide_eq_true h8]; simp
        · obtain ⟨rc, fc⟩ := hB.c (Nat.le_of_not_lt h8)
          have e9 : acosF c = fsub 4609753056924675352 (asinA c) := by
            have := asin_word false hB.c1 hB.c0
            rw [word_false, word_false] at this
            unfold acosF; rw [this]
          rw [e9, back_fin fc h1 rc]; simp
    · rw [decide_eq_true (Nat.lt_of_not_le h1)]; rfl

end Go.Proofs.YtgbdplmpojkklaaDoor
