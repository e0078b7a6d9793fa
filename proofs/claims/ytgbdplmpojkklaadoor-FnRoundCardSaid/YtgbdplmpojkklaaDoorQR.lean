/-
Errors over the rational numbers; the polynomials of Sin and Cos; the sum of the squares. No program in sight.
-/
import Derived.Test.YtgbdplmpojkklaaDoorQb
import Derived.Test.YtgbdplmpojkklaaDoorPl8
namespace Go.Proofs.YtgbdplmpojkklaaDoor

/-- A polynomial's value, lowest coefficient first. -/
def pev : List Rat → Rat → Rat
  | [], _ => 0
  | c :: cs, x => c + x * pev cs x
def padd : List Rat → List Rat → List Rat
  | [], q => q
  | p, [] => p
  | a :: p, b :: q => (a + b) :: padd p q
def psc (k : Rat) : List Rat → List Rat
  | [] => []
  | c :: cs => k * c :: psc k cs
def pmul : List Rat → List Rat → List Rat
  | [], _ => []
  | a :: p, q => padd (psc a q) (0 :: pmul p q)
def psh (a : Rat) : List Rat → List Rat
  | [] => []
  | c :: cs => padd [c] (padd (psc a (psh a cs)) (0 :: psh a cs))
def rabs (c : Rat) : Rat := if c < 0 then -c else c
def pab (h : Rat) : List Rat → Rat
  | [] => 0
  | c :: cs => rabs c + h * pab h cs

theorem pev_add (p q : List Rat) (x : Rat) : pev (padd p q) x = pev p x + pev q x := by
  induction p generalizing q with
  | nil => simp [padd, pev]; grind
  | cons a p ih =>
    cases q with
    | nil => simp [padd, pev]; grind
    | cons b q => simp only [padd, pev, ih]; grind
theorem pev_sc (k : Rat) (p : List Rat) (x : Rat) : pev (psc k p) x = k * pev p x := by
  induction p with
  | nil => simp [psc, pev]
  | cons a p ih => simp only [psc, pev, ih]; grind
theorem pev_mul (p q : List Rat) (x : Rat) : pev (pmul p q) x = pev p x * pev q x := by
  induction p with
  | nil => simp [pmul, pev]
  | cons a p ih => simp only [pmul, pev_add, pev_sc, pev, ih]; grind
theorem pev_sh (a : Rat) (p : List Rat) (t : Rat) : pev (psh a p) t = pev p (a + t) := by
  induction p with
  | nil => simp [psh, pev]
  | cons c p ih => simp only [psh, pev_add, pev_sc, pev, ih]; grind

theorem rabs_le (c : Rat) : -rabs c ≤ c ∧ c ≤ rabs c ∧ 0 ≤ rabs c := by
  unfold rabs; split <;> grind
theorem prod_abs {x y A Y : Rat} (hx : -A ≤ x ∧ x ≤ A) (hy : -Y ≤ y ∧ y ≤ Y) : -(A * Y) ≤ x * y ∧ x * y ≤ A * Y := by
  have m1 := Rat.mul_nonneg (show 0 ≤ A - x by grind) (show 0 ≤ Y + y by grind)
  have m2 := Rat.mul_nonneg (show 0 ≤ A + x by grind) (show 0 ≤ Y - y by grind)
  have m3 := Rat.mul_nonneg (show 0 ≤ A - x by grind) (show 0 ≤ Y - y by grind)
  have m4 := Rat.mul_nonneg (show 0 ≤ A + x by grind) (show 0 ≤ Y + y by grind)
  constructor <;> grind
theorem pab_bound {h t : Rat} (ht : -h ≤ t ∧ t ≤ h) (p : List Rat) : -pab h p ≤ pev p t ∧ pev p t ≤ pab h p := by
  induction p with
  | nil => simp [pab, pev]
  | cons c p ih =>
    have h1 := rabs_le c
    have h2 := prod_abs ht ih
    simp only [pab, pev]
    constructor <;> grind

/-- On each of the first n pieces of width 2h the polynomial is at most e in size. -/
def pieces (p : List Rat) (h e : Rat) : Nat → Bool
  | 0 => true
  | n + 1 => decide (pab h (psh ((2 * (n : Rat) + 1) * h) p) ≤ e) && pieces p h e n
theorem pieces_bound {p : List Rat} {h e : Rat} (n : Nat) (hc : pieces p h e n = true) {x : Rat} (h0 : 0 ≤ x) (h1 : x ≤ 2 * (n : Rat) * h) (he : 0 < n) : -e ≤ pev p x ∧ pev p x ≤ e := by
  induction n with
  | zero => omega
  | succ n ih =>
    simp only [pieces, Bool.and_eq_true, decide_eq_true_eq] at hc
    rcases Rat.le_total (a := x) (b := 2 * (n : Rat) * h) with hx | hx
    · by_cases hn : 0 < n
      · exact ih hc.2 hx hn
      · have : n = 0 := by omega
        subst this
        have e0 : ((0 : Nat) : Rat) = 0 := rfl
        rw [e0] at hx hc
        have hx0 : x = 0 := by grind
        have hb := pab_bound (h := h) (t := x - (2 * 0 + 1) * h) ⟨by grind, by
          have e1 : ((0 + 1 : Nat) : Rat) = 1 := rfl
          rw [e1] at h1; grind⟩ (psh ((2 * 0 + 1) * h) p)
        rw [pev_sh] at hb
        have e2 : (2 * 0 + 1) * h + (x - (2 * 0 + 1) * h) = x := by grind
        rw [e2] at hb
        constructor <;> grind
    · have e1 : ((n + 1 : Nat) : Rat) = (n : Rat) + 1 := by rw [Rat.natCast_add]; rfl
      rw [e1] at h1
      have hb := pab_bound (h := h) (t := x - (2 * (n : Rat) + 1) * h) ⟨by grind, by grind⟩ (psh ((2 * (n : Rat) + 1) * h) p)
      rw [pev_sh] at hb
      have e2 : (2 * (n : Rat) + 1) * h + (x - (2 * (n : Rat) + 1) * h) = x := by grind
      rw [e2] at hb
      constructor <;> grind

end Go.Proofs.YtgbdplmpojkklaaDoor

namespace Go.Proofs.YtgbdplmpojkklaaDoor
open Ieee

/-- A word's number is at most A in size. -/
def Bd (x : Nat) (A : Rat) : Prop := -A ≤ vq x ∧ vq x ≤ A
theorem In.bd {x a b : Nat} (h : In x a b) {A : Rat} (ha : -A ≤ vq a) (hb : vq b ≤ A) : Bd x A := h.qb ha hb
theorem Er.const {x : Nat} {p : Rat} (h : vq x = p) : Er x p 0 := by unfold Er; rw [h]; constructor <;> grind
theorem Er.self (x : Nat) : Er x (vq x) 0 := Er.const rfl

theorem lin_add {x y p q e f v d : Rat} (hx : p - e ≤ x ∧ x ≤ p + e) (hy : q - f ≤ y ∧ y ≤ q + f) (hv : x + y - d ≤ v ∧ v ≤ x + y + d) : p + q - (e + f + d) ≤ v ∧ v ≤ p + q + (e + f + d) := by
  constructor <;> grind
theorem lin_sub {x y p q e f v d : Rat} (hx : p - e ≤ x ∧ x ≤ p + e) (hy : q - f ≤ y ∧ y ≤ q + f) (hv : x - y - d ≤ v ∧ v ≤ x - y + d) : p - q - (e + f + d) ≤ v ∧ v ≤ p - q + (e + f + d) := by
  constructor <;> grind
theorem lin_mul {x y p q e f v d A Y : Rat} (hx : p - e ≤ x ∧ x ≤ p + e) (hy : q - f ≤ y ∧ y ≤ q + f) (hA : -A ≤ x ∧ x ≤ A) (hY : -Y ≤ y ∧ y ≤ Y) (hv : x * y - d ≤ v ∧ v ≤ x * y + d) :
    p * q - (A * f + e * (Y + f) + d) ≤ v ∧ v ≤ p * q + (A * f + e * (Y + f) + d) := by
  have h1 := prod_abs hA (show -f ≤ y - q ∧ y - q ≤ f by constructor <;> grind)
  have h2 := prod_abs (show -e ≤ x - p ∧ x - p ≤ e by constructor <;> grind) (show -(Y + f) ≤ q ∧ q ≤ Y + f by constructor <;> grind)
  have e1 : x * y = p * q + (x * (y - q) + (x - p) * q) := by grind
  rw [e1] at hv
  constructor <;> grind

theorem q_addE {x y : Nat} {p q e f T e' : Rat} (fx : Fw x) (fy : Fw y) (fr : Fw (fadd x y)) (hx : Er x p e) (hy : Er y q f) (hT : -T ≤ vq x + vq y ∧ vq x + vq y ≤ T) (he : e + f + (T * uq + hq) ≤ e') : Er (fadd x y) (p + q) e' :=
  Er.weak (lin_add hx hy (q_add fx fy fr hT.1 hT.2)) he
theorem q_subE {x y : Nat} {p q e f T e' : Rat} (fx : Fw x) (fy : Fw y) (fr : Fw (fsub x y)) (hx : Er x p e) (hy : Er y q f) (hT : -T ≤ vq x - vq y ∧ vq x - vq y ≤ T) (he : e + f + (T * uq + hq) ≤ e') : Er (fsub x y) (p - q) e' :=
  Er.weak (lin_sub hx hy (q_sub fx fy fr hT.1 hT.2)) he
theorem q_mulE {x y : Nat} {p q e f A Y e' : Rat} (fx : Fw x) (fy : Fw y) (fr : Fw (fmul x y)) (hx : Er x p e) (hy : Er y q f) (hA : Bd x A) (hY : Bd y Y) (he : A * f + e * (Y + f) + (A * Y * uq + hq) ≤ e') : Er (fmul x y) (p * q) e' := by
  have hT := prod_abs hA hY
  exact Er.weak (lin_mul hx hy hA hY (q_mul fx fy fr hT.1 hT.2)) he
/-- The sum's size out of the intervals. -/
theorem sum_T {x y a b c d : Nat} (hx : In x a b) (hy : In y c d) {T : Rat} (h1 : -T ≤ vq a + vq c) (h2 : vq b + vq d ≤ T) : -T ≤ vq x + vq y ∧ vq x + vq y ≤ T := by
  have := hx.q; have := hy.q
  constructor <;> grind
theorem dif_T {x y a b c d : Nat} (hx : In x a b) (hy : In y c d) {T : Rat} (h1 : -T ≤ vq a - vq d) (h2 : vq b - vq c ≤ T) : -T ≤ vq x - vq y ∧ vq x - vq y ≤ T := by
  have := hx.q; have := hy.q
  constructor <;> grind

end Go.Proofs.YtgbdplmpojkklaaDoor

namespace Go.Proofs.YtgbdplmpojkklaaDoor
open Ieee

def pS (X : Rat) : Rat := (((((6149556183080141 / 38685626227668133590597632 : Rat) * X + (-7571123942793053 / 302231454903657293676544 : Rat)) * X + (6506786710177953 / 2361183241434822606848 : Rat)) * X + (-7320136532877059 / 36893488147419103232 : Rat)) * X + (300239975157629 / 36028797018963968 : Rat)) * X + (-750599937895081 / 4503599627370496 : Rat)
def pC (X : Rat) : Rat := (((((-7030593573755547 / 618970019642690137449562112 : Rat) * X + (5047434750082821 / 2417851639229258349412352 : Rat)) * X + (-2602714736764387 / 9444732965739290427392 : Rat)) * X + (7320136533427445 / 295147905179352825856 : Rat)) * X + (-6405119470030737 / 4611686018427387904 : Rat)) * X + (6004799503160651 / 144115188075855872 : Rat)

set_option maxRecDepth 10000 in
theorem sin_er {z w : Nat} (hz : In z 13828622411414651273 4605250374559875465) (hw : In w 0 4603733562205377082) : Er (fadd z (fmul (fmul z w) (sinS w))) (vq z + vq z * vq w * pS (vq w)) (38266923419 / 309485009821345068724781056 : Rat) ∧ Fw (fadd z (fmul (fmul z w) (sinS w))) := by
  obtain ⟨v1, d1⟩ : ∃ v, v = fmul 4460209587652500685 w := ⟨_, rfl⟩
  have i1 : In v1 0 4457146214083207558 := by rw [d1]; exact In_mul (In.const (Fw.of (by decide +kernel))) hw (Fw.of (by decide +kernel)) (Fw.of (by decide +kernel)) (Fw.of (by decide +kernel)) (Fw.of (by decide +kernel)) (Fw.of (by decide +kernel)) (Fw.of (by decide +kernel)) (by decide +kernel) (by decide +kernel) (by decide +kernel) (by decide +kernel) (by decide +kernel) (by decide +kernel) (by decide +kernel) (by decide +kernel)
  have r1 : Er v1 (((6149556183080141 / 38685626227668133590597632 : Rat)) * (vq w)) (7 / 618970019642690137449562112 : Rat) := by rw [d1]; exact q_mulE (In.const (Fw.of (by decide +kernel))).1 hw.1 (by rw [← d1]; exact i1.1) (Er.const (show vq 4460209587652500685 = (6149556183080141 / 38685626227668133590597632 : Rat) by decide +kernel)) (Er.self w) (A := (6149556183080141 / 38685626227668133590597632 : Rat)) (Y := (2779171330050333 / 4503599627370496 : Rat)) ((In.const (Fw.of (by decide +kernel))).bd (by decide +kernel) (by decide +kernel)) (hw.bd (by decide +kernel) (by decide +kernel)) (by decide +kernel)
  obtain ⟨v2, d2⟩ : ∃ v, v = fadd v1 13716528389658582877 := ⟨_, rfl⟩
  have i2 : In v2 13716528389658582877 13716498742071703355 := by rw [d2]; exact In_add i1 (In.const (Fw.of (by decide +kernel))) (Fw.of (by decide +kernel)) (Fw.of (by decide +kernel)) (Fw.of (by decide +kernel)) (Fw.of (by decide +kernel)) (by decide +kernel) (by decide +kernel) (Fw.of (by decide +kernel)) (Fw.of (by decide +kernel))
  have r2 : Er v2 (((6149556183080141 / 38685626227668133590597632 : Rat)) * (vq w) + (-7571123942793053 / 302231454903657293676544 : Rat)) (3457 / 1237940039285380274899124224 : Rat) := by rw [d2]; exact q_addE i1.1 (In.const (Fw.of (by decide +kernel))).1 (by rw [← d2]; exact i2.1) r1 (Er.const (show vq 13716528389658582877 = (-7571123942793053 / 302231454903657293676544 : Rat) by decide +kernel)) (T := (7571123942793053 / 302231454903657293676544 : Rat)) (sum_T i1 (In.const (Fw.of (by decide +kernel))) (by decide +kernel) (by decide +kernel)) (by decide +kernel)
  obtain ⟨v3, d3⟩ : ∃ v, v = fmul v2 w := ⟨_, rfl⟩
  have i3 : In v3 13713629406300887417 9223372036854775808 := by rw [d3]; exact In_mul i2 hw (Fw.of (by decide +kernel)) (Fw.of (by decide +kernel)) (Fw.of (by decide +kernel)) (Fw.of (by decide +kernel)) (Fw.of (by decide +kernel)) (Fw.of (by decide +kernel)) (by decide +kernel) (by decide +kernel) (by decide +kernel) (by decide +kernel) (by decide +kernel) (by decide +kernel) (by decide +kernel) (by decide +kernel)
  have r3 : Er v3 ((((6149556183080141 / 38685626227668133590597632 : Rat)) * (vq w) + (-7571123942793053 / 302231454903657293676544 : Rat)) * (vq w)) (2129 / 618970019642690137449562112 : Rat) := by rw [d3]; exact q_mulE i2.1 hw.1 (by rw [← d3]; exact i3.1) r2 (Er.self w) (A := (7571123942793053 / 302231454903657293676544 : Rat)) (Y := (2779171330050333 / 4503599627370496 : Rat)) (i2.bd (by decide +kernel) (by decide +kernel)) (hw.bd (by decide +kernel) (by decide +kernel)) (by decide +kernel)
  obtain ⟨v4, d4⟩ : ∃ v, v = fadd v3 4523617212962785441 := ⟨_, rfl⟩
  have i4 : In v4 4523580711864464366 4523617212962785441 := by rw [d4]; exact In_add i3 (In.const (Fw.of (by decide +kernel))) (Fw.of (by decide +kernel)) (Fw.of (by decide +kernel)) (Fw.of (by decide +kernel)) (Fw.of (by decide +kernel)) (by decide +kernel) (by decide +kernel) (Fw.of (by decide +kernel)) (Fw.of (by decide +kernel))
  have r4 : Er v4 ((((6149556183080141 / 38685626227668133590597632 : Rat)) * (vq w) + (-7571123942793053 / 302231454903657293676544 : Rat)) * (vq w) + (6506786710177953 / 2361183241434822606848 : Rat)) (383003 / 1237940039285380274899124224 : Rat) := by rw [d4]; exact q_addE i3.1 (In.const (Fw.of (by decide +kernel))).1 (by rw [← d4]; exact i4.1) r3 (Er.const (show vq 4523617212962785441 = (6506786710177953 / 2361183241434822606848 : Rat) by decide +kernel)) (T := (6506786710177953 / 2361183241434822606848 : Rat)) (sum_T i3 (In.const (Fw.of (by decide +kernel))) (by decide +kernel) (by decide +kernel)) (by decide +kernel)
  obtain ⟨v5, d5⟩ : ∃ v, v = fmul v4 w := ⟨_, rfl⟩
  have i5 : In v5 0 4520637502782938621 := by rw [d5]; exact In_mul i4 hw (Fw.of (by decide +kernel)) (Fw.of (by decide +kernel)) (Fw.of (by decide +kernel)) (Fw.of (by decide +kernel)) (Fw.of (by decide +kernel)) (Fw.of (by decide +kernel)) (by decide +kernel) (by decide +kernel) (by decide +kernel) (by decide +kernel) (by decide +kernel) (by decide +kernel) (by decide +kernel) (by decide +kernel)
  have r5 : Er v5 (((((6149556183080141 / 38685626227668133590597632 : Rat)) * (vq w) + (-7571123942793053 / 302231454903657293676544 : Rat)) * (vq w) + (6506786710177953 / 2361183241434822606848 : Rat)) * (vq w)) (470075 / 1237940039285380274899124224 : Rat) := by rw [d5]; exact q_mulE i4.1 hw.1 (by rw [← d5]; exact i5.1) r4 (Er.self w) (A := (6506786710177953 / 2361183241434822606848 : Rat)) (Y := (2779171330050333 / 4503599627370496 : Rat)) (i4.bd (by decide +kernel) (by decide +kernel)) (hw.bd (by decide +kernel) (by decide +kernel)) (by decide +kernel)
  obtain ⟨v6, d6⟩ : ∃ v, v = fadd v5 13774824197404483331 := ⟨_, rfl⟩
  have i6 : In v6 13774824197404483331 13774761457747001287 := by rw [d6]; exact In_add i5 (In.const (Fw.of (by decide +kernel))) (Fw.of (by decide +kernel)) (Fw.of (by decide +kernel)) (Fw.of (by decide +kernel)) (Fw.of (by decide +kernel)) (by decide +kernel) (by decide +kernel) (Fw.of (by decide +kernel)) (Fw.of (by decide +kernel))
  have r6 : Er v6 (((((6149556183080141 / 38685626227668133590597632 : Rat)) * (vq w) + (-7571123942793053 / 302231454903657293676544 : Rat)) * (vq w) + (6506786710177953 / 2361183241434822606848 : Rat)) * (vq w) + (-7320136532877059 / 36893488147419103232 : Rat)) (27739709 / 1237940039285380274899124224 : Rat) := by rw [d6]; exact q_addE i5.1 (In.const (Fw.of (by decide +kernel))).1 (by rw [← d6]; exact i6.1) r5 (Er.const (show vq 13774824197404483331 = (-7320136532877059 / 36893488147419103232 : Rat) by decide +kernel)) (T := (7320136532877059 / 36893488147419103232 : Rat)) (sum_T i5 (In.const (Fw.of (by decide +kernel))) (by decide +kernel) (by decide +kernel)) (by decide +kernel)
  obtain ⟨v7, d7⟩ : ∃ v, v = fmul v6 w := ⟨_, rfl⟩
  have i7 : In v7 13772021317126044705 9223372036854775808 := by rw [d7]; exact In_mul i6 hw (Fw.of (by decide +kernel)) (Fw.of (by decide +kernel)) (Fw.of (by decide +kernel)) (Fw.of (by decide +kernel)) (Fw.of (by decide +kernel)) (Fw.of (by decide +kernel)) (by decide +kernel) (by decide +kernel) (by decide +kernel) (by decide +kernel) (by decide +kernel) (by decide +kernel) (by decide +kernel) (by decide +kernel)
  have r7 : Er v7 ((((((6149556183080141 / 38685626227668133590597632 : Rat)) * (vq w) + (-7571123942793053 / 302231454903657293676544 : Rat)) * (vq w) + (6506786710177953 / 2361183241434822606848 : Rat)) * (vq w) + (-7320136532877059 / 36893488147419103232 : Rat)) * (vq w)) (16973133 / 618970019642690137449562112 : Rat) := by rw [d7]; exact q_mulE i6.1 hw.1 (by rw [← d7]; exact i7.1) r6 (Er.self w) (A := (7320136532877059 / 36893488147419103232 : Rat)) (Y := (2779171330050333 / 4503599627370496 : Rat)) (i6.bd (by decide +kernel) (by decide +kernel)) (hw.bd (by decide +kernel) (by decide +kernel)) (by decide +kernel)
  obtain ⟨v8, d8⟩ : ∃ v, v = fadd v7 4575957461383575504 := ⟨_, rfl⟩
  have i8 : In v8 4575886879254599903 4575957461383575504 := by rw [d8]; exact In_add i7 (In.const (Fw.of (by decide +kernel))) (Fw.of (by decide +kernel)) (Fw.of (by decide +kernel)) (Fw.of (by decide +kernel)) (Fw.of (by decide +kernel)) (by decide +kernel) (by decide +kernel) (Fw.of (by decide +kernel)) (Fw.of (by decide +kernel))
  have r8 : Er v8 ((((((6149556183080141 / 38685626227668133590597632 : Rat)) * (vq w) + (-7571123942793053 / 302231454903657293676544 : Rat)) * (vq w) + (6506786710177953 / 2361183241434822606848 : Rat)) * (vq w) + (-7320136532877059 / 36893488147419103232 : Rat)) * (vq w) + (300239975157629 / 36028797018963968 : Rat)) (1179270879 / 1237940039285380274899124224 : Rat) := by rw [d8]; exact q_addE i7.1 (In.const (Fw.of (by decide +kernel))).1 (by rw [← d8]; exact i8.1) r7 (Er.const (show vq 4575957461383575504 = (300239975157629 / 36028797018963968 : Rat) by decide +kernel)) (T := (300239975157629 / 36028797018963968 : Rat)) (sum_T i7 (In.const (Fw.of (by decide +kernel))) (by decide +kernel) (by decide +kernel)) (by decide +kernel)
  obtain ⟨v9, d9⟩ : ∃ v, v = fmul v8 w := ⟨_, rfl⟩
  have i9 : In v9 0 4572578920991115675 := by rw [d9]; exact In_mul i8 hw (Fw.of (by decide +kernel)) (Fw.of (by decide +kernel)) (Fw.of (by decide +kernel)) (Fw.of (by decide +kernel)) (Fw.of (by decide +kernel)) (Fw.of (by decide +kernel)) (by decide +kernel) (by decide +kernel) (by decide +kernel) (by decide +kernel) (by decide +kernel) (by decide +kernel) (by decide +kernel) (by decide +kernel)
  have r9 : Er v9 (((((((6149556183080141 / 38685626227668133590597632 : Rat)) * (vq w) + (-7571123942793053 / 302231454903657293676544 : Rat)) * (vq w) + (6506786710177953 / 2361183241434822606848 : Rat)) * (vq w) + (-7320136532877059 / 36893488147419103232 : Rat)) * (vq w) + (300239975157629 / 36028797018963968 : Rat)) * (vq w)) (717253939 / 618970019642690137449562112 : Rat) := by rw [d9]; exact q_mulE i8.1 hw.1 (by rw [← d9]; exact i9.1) r8 (Er.self w) (A := (300239975157629 / 36028797018963968 : Rat)) (Y := (2779171330050333 / 4503599627370496 : Rat)) (i8.bd (by decide +kernel) (by decide +kernel)) (hw.bd (by decide +kernel) (by decide +kernel)) (by decide +kernel)
  obtain ⟨v10, d10⟩ : ∃ v, v = fadd v9 13818544856648471880 := ⟨_, rfl⟩
  have i10 : In v10 13818544856648471880 13818359578559802107 := by rw [d10]; exact In_add i9 (In.const (Fw.of (by decide +kernel))) (Fw.of (by decide +kernel)) (Fw.of (by decide +kernel)) (Fw.of (by decide +kernel)) (Fw.of (by decide +kernel)) (by decide +kernel) (by decide +kernel) (Fw.of (by decide +kernel)) (Fw.of (by decide +kernel))
  have r10 : Er v10 (((((((6149556183080141 / 38685626227668133590597632 : Rat)) * (vq w) + (-7571123942793053 / 302231454903657293676544 : Rat)) * (vq w) + (6506786710177953 / 2361183241434822606848 : Rat)) * (vq w) + (-7320136532877059 / 36893488147419103232 : Rat)) * (vq w) + (300239975157629 / 36028797018963968 : Rat)) * (vq w) + (-750599937895081 / 4503599627370496 : Rat)) (6085250031 / 309485009821345068724781056 : Rat) := by rw [d10]; exact q_addE i9.1 (In.const (Fw.of (by decide +kernel))).1 (by rw [← d10]; exact i10.1) r9 (Er.const (show vq 13818544856648471880 = (-750599937895081 / 4503599627370496 : Rat) by decide +kernel)) (T := (750599937895081 / 4503599627370496 : Rat)) (sum_T i9 (In.const (Fw.of (by decide +kernel))) (by decide +kernel) (by decide +kernel)) (by decide +kernel)
  obtain ⟨v11, d11⟩ : ∃ v, v = fmul z w := ⟨_, rfl⟩
  have i11 : In v11 13825775813091699874 4602403776236924066 := by rw [d11]; exact In_mul hz hw (Fw.of (by decide +kernel)) (Fw.of (by decide +kernel)) (Fw.of (by decide +kernel)) (Fw.of (by decide +kernel)) (Fw.of (by decide +kernel)) (Fw.of (by decide +kernel)) (by decide +kernel) (by decide +kernel) (by decide +kernel) (by decide +kernel) (by decide +kernel) (by decide +kernel) (by decide +kernel) (by decide +kernel)
  have r11 : Er v11 ((vq z) * (vq w)) (66621065667 / 1237940039285380274899124224 : Rat) := by rw [d11]; exact q_mulE hz.1 hw.1 (by rw [← d11]; exact i11.1) (Er.self z) (Er.self w) (A := (7075155014599049 / 9007199254740992 : Rat)) (Y := (2779171330050333 / 4503599627370496 : Rat)) (hz.bd (by decide +kernel) (by decide +kernel)) (hw.bd (by decide +kernel) (by decide +kernel)) (by decide +kernel)
  obtain ⟨v12, d12⟩ : ∃ v, v = fmul v11 v10 := ⟨_, rfl⟩
  have i12 : In v12 13813857895063952820 4590485858209177012 := by rw [d12]; exact In_mul i11 i10 (Fw.of (by decide +kernel)) (Fw.of (by decide +kernel)) (Fw.of (by decide +kernel)) (Fw.of (by decide +kernel)) (Fw.of (by decide +kernel)) (Fw.of (by decide +kernel)) (by decide +kernel) (by decide +kernel) (by decide +kernel) (by decide +kernel) (by decide +kernel) (by decide +kernel) (by decide +kernel) (by decide +kernel)
  have r12 : Er v12 (((vq z) * (vq w)) * (((((((6149556183080141 / 38685626227668133590597632 : Rat)) * (vq w) + (-7571123942793053 / 302231454903657293676544 : Rat)) * (vq w) + (6506786710177953 / 2361183241434822606848 : Rat)) * (vq w) + (-7320136532877059 / 36893488147419103232 : Rat)) * (vq w) + (300239975157629 / 36028797018963968 : Rat)) * (vq w) + (-750599937895081 / 4503599627370496 : Rat))) (34005884779 / 1237940039285380274899124224 : Rat) := by rw [d12]; exact q_mulE i11.1 i10.1 (by rw [← d12]; exact i12.1) r11 r10 (A := (4366078159509073 / 9007199254740992 : Rat)) (Y := (750599937895081 / 4503599627370496 : Rat)) (i11.bd (by decide +kernel) (by decide +kernel)) (i10.bd (by decide +kernel) (by decide +kernel)) (by decide +kernel)
  obtain ⟨v13, d13⟩ : ∃ v, v = fadd z v12 := ⟨_, rfl⟩
  have i13 : In v13 13829350091107902784 4605978054253126976 := by rw [d13]; exact In_add hz i12 (Fw.of (by decide +kernel)) (Fw.of (by decide +kernel)) (Fw.of (by decide +kernel)) (Fw.of (by decide +kernel)) (by decide +kernel) (by decide +kernel) (Fw.of (by decide +kernel)) (Fw.of (by decide +kernel))
  have r13 : Er v13 (vq z + ((vq z) * (vq w)) * (((((((6149556183080141 / 38685626227668133590597632 : Rat)) * (vq w) + (-7571123942793053 / 302231454903657293676544 : Rat)) * (vq w) + (6506786710177953 / 2361183241434822606848 : Rat)) * (vq w) + (-7320136532877059 / 36893488147419103232 : Rat)) * (vq w) + (300239975157629 / 36028797018963968 : Rat)) * (vq w) + (-750599937895081 / 4503599627370496 : Rat))) (38266923419 / 309485009821345068724781056 : Rat) := by rw [d13]; exact q_addE hz.1 i12.1 (by rw [← d13]; exact i13.1) (Er.self z) r12 (T := (15605669415701119 / 18014398509481984 : Rat)) (sum_T hz i12 (by decide +kernel) (by decide +kernel)) (by decide +kernel)
  have e : fadd z (fmul (fmul z w) (sinS w)) = v13 := by subst_vars; rfl
  rw [e]
  exact ⟨r13, i13.1⟩

set_option maxRecDepth 10000 in
theorem cos_er {w : Nat} (hw : In w 0 4603733562205377082) : Er (fadd (fsub one (fmul 4602678819172646912 w)) (fmul (fmul w w) (cosS w))) ((1 - 1 / 2 * vq w) + vq w * vq w * pC (vq w)) (163049242429 / 618970019642690137449562112 : Rat) ∧ Fw (fadd (fsub one (fmul 4602678819172646912 w)) (fmul (fmul w w) (cosS w))) := by
  obtain ⟨v1, d1⟩ : ∃ v, v = fmul 13666448263388469915 w := ⟨_, rfl⟩
  have i1 : In v1 13663591228776072968 9223372036854775808 := by rw [d1]; exact In_mul (In.const (Fw.of (by decide +kernel))) hw (Fw.of (by decide +kernel)) (Fw.of (by decide +kernel)) (Fw.of (by decide +kernel)) (Fw.of (by decide +kernel)) (Fw.of (by decide +kernel)) (Fw.of (by decide +kernel)) (by decide +kernel) (by decide +kernel) (by decide +kernel) (by decide +kernel) (by decide +kernel) (by decide +kernel) (by decide +kernel) (by decide +kernel)
  have r1 : Er v1 (((-7030593573755547 / 618970019642690137449562112 : Rat)) * (vq w)) (1 / 1237940039285380274899124224 : Rat) := by rw [d1]; exact q_mulE (In.const (Fw.of (by decide +kernel))).1 hw.1 (by rw [← d1]; exact i1.1) (Er.const (show vq 13666448263388469915 = (-7030593573755547 / 618970019642690137449562112 : Rat) by decide +kernel)) (Er.self w) (A := (7030593573755547 / 618970019642690137449562112 : Rat)) (Y := (2779171330050333 / 4503599627370496 : Rat)) ((In.const (Fw.of (by decide +kernel))).bd (by decide +kernel) (by decide +kernel)) (hw.bd (by decide +kernel) (by decide +kernel)) (by decide +kernel)
  obtain ⟨v2, d2⟩ : ∃ v, v = fadd v1 4477121864728985349 := ⟨_, rfl⟩
  have i2 : In v2 4477104917153616737 4477121864728985349 := by rw [d2]; exact In_add i1 (In.const (Fw.of (by decide +kernel))) (Fw.of (by decide +kernel)) (Fw.of (by decide +kernel)) (Fw.of (by decide +kernel)) (Fw.of (by decide +kernel)) (by decide +kernel) (by decide +kernel) (Fw.of (by decide +kernel)) (Fw.of (by decide +kernel))
  have r2 : Er v2 (((-7030593573755547 / 618970019642690137449562112 : Rat)) * (vq w) + (5047434750082821 / 2417851639229258349412352 : Rat)) (9 / 38685626227668133590597632 : Rat) := by rw [d2]; exact q_addE i1.1 (In.const (Fw.of (by decide +kernel))).1 (by rw [← d2]; exact i2.1) r1 (Er.const (show vq 4477121864728985349 = (5047434750082821 / 2417851639229258349412352 : Rat) by decide +kernel)) (T := (5047434750082821 / 2417851639229258349412352 : Rat)) (sum_T i1 (In.const (Fw.of (by decide +kernel))) (by decide +kernel) (by decide +kernel)) (by decide +kernel)
  obtain ⟨v3, d3⟩ : ∃ v, v = fmul v2 w := ⟨_, rfl⟩
  have i3 : In v3 0 4473800374320084249 := by rw [d3]; exact In_mul i2 hw (Fw.of (by decide +kernel)) (Fw.of (by decide +kernel)) (Fw.of (by decide +kernel)) (Fw.of (by decide +kernel)) (Fw.of (by decide +kernel)) (Fw.of (by decide +kernel)) (by decide +kernel) (by decide +kernel) (by decide +kernel) (by decide +kernel) (by decide +kernel) (by decide +kernel) (by decide +kernel) (by decide +kernel)
  have r3 : Er v3 ((((-7030593573755547 / 618970019642690137449562112 : Rat)) * (vq w) + (5047434750082821 / 2417851639229258349412352 : Rat)) * (vq w)) (355 / 1237940039285380274899124224 : Rat) := by rw [d3]; exact q_mulE i2.1 hw.1 (by rw [← d3]; exact i3.1) r2 (Er.self w) (A := (5047434750082821 / 2417851639229258349412352 : Rat)) (Y := (2779171330050333 / 4503599627370496 : Rat)) (i2.bd (by decide +kernel) (by decide +kernel)) (hw.bd (by decide +kernel) (by decide +kernel)) (by decide +kernel)
  obtain ⟨v4, d4⟩ : ∃ v, v = fadd v3 13732177093698800582 := ⟨_, rfl⟩
  have i4 : In v4 13732177093698800582 13732152759542673425 := by rw [d4]; exact In_add i3 (In.const (Fw.of (by decide +kernel))) (Fw.of (by decide +kernel)) (Fw.of (by decide +kernel)) (Fw.of (by decide +kernel)) (Fw.of (by decide +kernel)) (by decide +kernel) (by decide +kernel) (Fw.of (by decide +kernel)) (Fw.of (by decide +kernel))
  have r4 : Er v4 ((((-7030593573755547 / 618970019642690137449562112 : Rat)) * (vq w) + (5047434750082821 / 2417851639229258349412352 : Rat)) * (vq w) + (-2602714736764387 / 9444732965739290427392 : Rat)) (19115 / 618970019642690137449562112 : Rat) := by rw [d4]; exact q_addE i3.1 (In.const (Fw.of (by decide +kernel))).1 (by rw [← d4]; exact i4.1) r3 (Er.const (show vq 13732177093698800582 = (-2602714736764387 / 9444732965739290427392 : Rat) by decide +kernel)) (T := (2602714736764387 / 9444732965739290427392 : Rat)) (sum_T i3 (In.const (Fw.of (by decide +kernel))) (by decide +kernel) (by decide +kernel)) (by decide +kernel)
  obtain ⟨v5, d5⟩ : ∃ v, v = fmul v4 w := ⟨_, rfl⟩
  have i5 : In v5 13728892605654130525 9223372036854775808 := by rw [d5]; exact In_mul i4 hw (Fw.of (by decide +kernel)) (Fw.of (by decide +kernel)) (Fw.of (by decide +kernel)) (Fw.of (by decide +kernel)) (Fw.of (by decide +kernel)) (Fw.of (by decide +kernel)) (by decide +kernel) (by decide +kernel) (by decide +kernel) (by decide +kernel) (by decide +kernel) (by decide +kernel) (by decide +kernel) (by decide +kernel)
  have r5 : Er v5 (((((-7030593573755547 / 618970019642690137449562112 : Rat)) * (vq w) + (5047434750082821 / 2417851639229258349412352 : Rat)) * (vq w) + (-2602714736764387 / 9444732965739290427392 : Rat)) * (vq w)) (46965 / 1237940039285380274899124224 : Rat) := by rw [d5]; exact q_mulE i4.1 hw.1 (by rw [← d5]; exact i5.1) r4 (Er.self w) (A := (2602714736764387 / 9444732965739290427392 : Rat)) (Y := (2779171330050333 / 4503599627370496 : Rat)) (i4.bd (by decide +kernel) (by decide +kernel)) (hw.bd (by decide +kernel) (by decide +kernel)) (by decide +kernel)
  obtain ⟨v6, d6⟩ : ∃ v, v = fadd v5 4537941361668146421 := ⟨_, rfl⟩
  have i6 : In v6 4537891169941144630 4537941361668146421 := by rw [d6]; exact In_add i5 (In.const (Fw.of (by decide +kernel))) (Fw.of (by decide +kernel)) (Fw.of (by decide +kernel)) (Fw.of (by decide +kernel)) (Fw.of (by decide +kernel)) (by decide +kernel) (by decide +kernel) (Fw.of (by decide +kernel)) (Fw.of (by decide +kernel))
  have r6 : Er v6 (((((-7030593573755547 / 618970019642690137449562112 : Rat)) * (vq w) + (5047434750082821 / 2417851639229258349412352 : Rat)) * (vq w) + (-2602714736764387 / 9444732965739290427392 : Rat)) * (vq w) + (7320136533427445 / 295147905179352825856 : Rat)) (1727835 / 618970019642690137449562112 : Rat) := by rw [d6]; exact q_addE i5.1 (In.const (Fw.of (by decide +kernel))).1 (by rw [← d6]; exact i6.1) r5 (Er.const (show vq 4537941361668146421 = (7320136533427445 / 295147905179352825856 : Rat) by decide +kernel)) (T := (7320136533427445 / 295147905179352825856 : Rat)) (sum_T i5 (In.const (Fw.of (by decide +kernel))) (by decide +kernel) (by decide +kernel)) (by decide +kernel)
  obtain ⟨v7, d7⟩ : ∃ v, v = fmul v6 w := ⟨_, rfl⟩
  have i7 : In v7 0 4535138481389497052 := by rw [d7]; exact In_mul i6 hw (Fw.of (by decide +kernel)) (Fw.of (by decide +kernel)) (Fw.of (by decide +kernel)) (Fw.of (by decide +kernel)) (Fw.of (by decide +kernel)) (Fw.of (by decide +kernel)) (by decide +kernel) (by decide +kernel) (by decide +kernel) (by decide +kernel) (by decide +kernel) (by decide +kernel) (by decide +kernel) (by decide +kernel)
  have r7 : Er v7 ((((((-7030593573755547 / 618970019642690137449562112 : Rat)) * (vq w) + (5047434750082821 / 2417851639229258349412352 : Rat)) * (vq w) + (-2602714736764387 / 9444732965739290427392 : Rat)) * (vq w) + (7320136533427445 / 295147905179352825856 : Rat)) * (vq w)) (2118003 / 618970019642690137449562112 : Rat) := by rw [d7]; exact q_mulE i6.1 hw.1 (by rw [← d7]; exact i7.1) r6 (Er.self w) (A := (7320136533427445 / 295147905179352825856 : Rat)) (Y := (2779171330050333 / 4503599627370496 : Rat)) (i6.bd (by decide +kernel) (by decide +kernel)) (hw.bd (by decide +kernel) (by decide +kernel)) (by decide +kernel)
  obtain ⟨v8, d8⟩ : ∃ v, v = fadd v7 13787419979223748497 := ⟨_, rfl⟩
  have i8 : In v8 13787419979223748497 13787349397094767590 := by rw [d8]; exact In_add i7 (In.const (Fw.of (by decide +kernel))) (Fw.of (by decide +kernel)) (Fw.of (by decide +kernel)) (Fw.of (by decide +kernel)) (Fw.of (by decide +kernel)) (by decide +kernel) (by decide +kernel) (Fw.of (by decide +kernel)) (Fw.of (by decide +kernel))
  have r8 : Er v8 ((((((-7030593573755547 / 618970019642690137449562112 : Rat)) * (vq w) + (5047434750082821 / 2417851639229258349412352 : Rat)) * (vq w) + (-2602714736764387 / 9444732965739290427392 : Rat)) * (vq w) + (7320136533427445 / 295147905179352825856 : Rat)) * (vq w) + (-6405119470030737 / 4611686018427387904 : Rat)) (97561721 / 618970019642690137449562112 : Rat) := by rw [d8]; exact q_addE i7.1 (In.const (Fw.of (by decide +kernel))).1 (by rw [← d8]; exact i8.1) r7 (Er.const (show vq 13787419979223748497 = (-6405119470030737 / 4611686018427387904 : Rat) by decide +kernel)) (T := (6405119470030737 / 4611686018427387904 : Rat)) (sum_T i7 (In.const (Fw.of (by decide +kernel))) (by decide +kernel) (by decide +kernel)) (by decide +kernel)
  obtain ⟨v9, d9⟩ : ∃ v, v = fmul v8 w := ⟨_, rfl⟩
  have i9 : In v9 13784416458576259199 9223372036854775808 := by rw [d9]; exact In_mul i8 hw (Fw.of (by decide +kernel)) (Fw.of (by decide +kernel)) (Fw.of (by decide +kernel)) (Fw.of (by decide +kernel)) (Fw.of (by decide +kernel)) (Fw.of (by decide +kernel)) (by decide +kernel) (by decide +kernel) (by decide +kernel) (by decide +kernel) (by decide +kernel) (by decide +kernel) (by decide +kernel) (by decide +kernel)
  have r9 : Er v9 (((((((-7030593573755547 / 618970019642690137449562112 : Rat)) * (vq w) + (5047434750082821 / 2417851639229258349412352 : Rat)) * (vq w) + (-2602714736764387 / 9444732965739290427392 : Rat)) * (vq w) + (7320136533427445 / 295147905179352825856 : Rat)) * (vq w) + (-6405119470030737 / 4611686018427387904 : Rat)) * (vq w)) (238207313 / 1237940039285380274899124224 : Rat) := by rw [d9]; exact q_mulE i8.1 hw.1 (by rw [← d9]; exact i9.1) r8 (Er.self w) (A := (6405119470030737 / 4611686018427387904 : Rat)) (Y := (2779171330050333 / 4503599627370496 : Rat)) (i8.bd (by decide +kernel) (by decide +kernel)) (hw.bd (by decide +kernel) (by decide +kernel)) (by decide +kernel)
  obtain ⟨v10, d10⟩ : ∃ v, v = fadd v9 4586165620538955083 := ⟨_, rfl⟩
  have i10 : In v10 4586042101813175209 4586165620538955083 := by rw [d10]; exact In_add i9 (In.const (Fw.of (by decide +kernel))) (Fw.of (by decide +kernel)) (Fw.of (by decide +kernel)) (Fw.of (by decide +kernel)) (Fw.of (by decide +kernel)) (by decide +kernel) (by decide +kernel) (Fw.of (by decide +kernel)) (Fw.of (by decide +kernel))
  have r10 : Er v10 (((((((-7030593573755547 / 618970019642690137449562112 : Rat)) * (vq w) + (5047434750082821 / 2417851639229258349412352 : Rat)) * (vq w) + (-2602714736764387 / 9444732965739290427392 : Rat)) * (vq w) + (7320136533427445 / 295147905179352825856 : Rat)) * (vq w) + (-6405119470030737 / 4611686018427387904 : Rat)) * (vq w) + (6004799503160651 / 144115188075855872 : Rat)) (5964830375 / 1237940039285380274899124224 : Rat) := by rw [d10]; exact q_addE i9.1 (In.const (Fw.of (by decide +kernel))).1 (by rw [← d10]; exact i10.1) r9 (Er.const (show vq 4586165620538955083 = (6004799503160651 / 144115188075855872 : Rat) by decide +kernel)) (T := (6004799503160651 / 144115188075855872 : Rat)) (sum_T i9 (In.const (Fw.of (by decide +kernel))) (by decide +kernel) (by decide +kernel)) (by decide +kernel)
  obtain ⟨v11, d11⟩ : ∃ v, v = fmul 4602678819172646912 w := ⟨_, rfl⟩
  have i11 : In v11 0 4599229962578006586 := by rw [d11]; exact In_mul (In.const (Fw.of (by decide +kernel))) hw (Fw.of (by decide +kernel)) (Fw.of (by decide +kernel)) (Fw.of (by decide +kernel)) (Fw.of (by decide +kernel)) (Fw.of (by decide +kernel)) (Fw.of (by decide +kernel)) (by decide +kernel) (by decide +kernel) (by decide +kernel) (by decide +kernel) (by decide +kernel) (by decide +kernel) (by decide +kernel) (by decide +kernel)
  have r11 : Er v11 (((1 / 2 : Rat)) * (vq w)) (21203394547 / 618970019642690137449562112 : Rat) := by rw [d11]; exact q_mulE (In.const (Fw.of (by decide +kernel))).1 hw.1 (by rw [← d11]; exact i11.1) (Er.const (show vq 4602678819172646912 = (1 / 2 : Rat) by decide +kernel)) (Er.self w) (A := (1 / 2 : Rat)) (Y := (2779171330050333 / 4503599627370496 : Rat)) ((In.const (Fw.of (by decide +kernel))).bd (by decide +kernel) (by decide +kernel)) (hw.bd (by decide +kernel) (by decide +kernel)) (by decide +kernel)
  obtain ⟨v12, d12⟩ : ∃ v, v = fsub 4607182418800017408 v11 := ⟨_, rfl⟩
  have i12 : In v12 4604403247469967075 4607182418800017408 := by rw [d12]; exact In_sub (In.const (Fw.of (by decide +kernel))) i11 (Fw.of (by decide +kernel)) (Fw.of (by decide +kernel)) (Fw.of (by decide +kernel)) (Fw.of (by decide +kernel)) (by decide +kernel) (by decide +kernel) (Fw.of (by decide +kernel)) (Fw.of (by decide +kernel))
  have r12 : Er v12 ((1 : Rat) - (((1 / 2 : Rat)) * (vq w))) (179845742567 / 1237940039285380274899124224 : Rat) := by rw [d12]; exact q_subE (In.const (Fw.of (by decide +kernel))).1 i11.1 (by rw [← d12]; exact i12.1) (Er.const (show vq 4607182418800017408 = (1 : Rat) by decide +kernel)) r11 (T := (1 : Rat)) (dif_T (In.const (Fw.of (by decide +kernel))) i11 (by decide +kernel) (by decide +kernel)) (by decide +kernel)
  obtain ⟨v13, d13⟩ : ∃ v, v = fmul w w := ⟨_, rfl⟩
  have i13 : In v13 0 4600531726429002162 := by rw [d13]; exact In_sq hw (Fw.of (by decide +kernel)) (Fw.of (by decide +kernel)) (Fw.of (by decide +kernel)) (by decide +kernel) (by decide +kernel)
  have r13 : Er v13 ((vq w) * (vq w)) (13084614775 / 309485009821345068724781056 : Rat) := by rw [d13]; exact q_mulE hw.1 hw.1 (by rw [← d13]; exact i13.1) (Er.self w) (Er.self w) (A := (2779171330050333 / 4503599627370496 : Rat)) (Y := (2779171330050333 / 4503599627370496 : Rat)) (hw.bd (by decide +kernel) (by decide +kernel)) (hw.bd (by decide +kernel) (by decide +kernel)) (by decide +kernel)
  obtain ⟨v14, d14⟩ : ∃ v, v = fmul v13 v10 := ⟨_, rfl⟩
  have i14 : In v14 0 4580230625749154756 := by rw [d14]; exact In_mul i13 i10 (Fw.of (by decide +kernel)) (Fw.of (by decide +kernel)) (Fw.of (by decide +kernel)) (Fw.of (by decide +kernel)) (Fw.of (by decide +kernel)) (Fw.of (by decide +kernel)) (by decide +kernel) (by decide +kernel) (by decide +kernel) (by decide +kernel) (by decide +kernel) (by decide +kernel) (by decide +kernel) (by decide +kernel)
  have r14 : Er v14 (((vq w) * (vq w)) * (((((((-7030593573755547 / 618970019642690137449562112 : Rat)) * (vq w) + (5047434750082821 / 2417851639229258349412352 : Rat)) * (vq w) + (-2602714736764387 / 9444732965739290427392 : Rat)) * (vq w) + (7320136533427445 / 295147905179352825856 : Rat)) * (vq w) + (-6405119470030737 / 4611686018427387904 : Rat)) * (vq w) + (6004799503160651 / 144115188075855872 : Rat))) (6633019689 / 1237940039285380274899124224 : Rat) := by rw [d14]; exact q_mulE i13.1 i10.1 (by rw [← d14]; exact i14.1) r13 r10 (A := (3430053255548121 / 9007199254740992 : Rat)) (Y := (6004799503160651 / 144115188075855872 : Rat)) (i13.bd (by decide +kernel) (by decide +kernel)) (i10.bd (by decide +kernel) (by decide +kernel)) (by decide +kernel)
  obtain ⟨v15, d15⟩ : ∃ v, v = fadd v12 v14 := ⟨_, rfl⟩
  have i15 : In v15 4604403247469967075 4607253878242841327 := by rw [d15]; exact In_add i12 i14 (Fw.of (by decide +kernel)) (Fw.of (by decide +kernel)) (Fw.of (by decide +kernel)) (Fw.of (by decide +kernel)) (by decide +kernel) (by decide +kernel) (Fw.of (by decide +kernel)) (Fw.of (by decide +kernel))
  have r15 : Er v15 ((1 : Rat) - (((1 / 2 : Rat)) * (vq w)) + ((vq w) * (vq w)) * (((((((-7030593573755547 / 618970019642690137449562112 : Rat)) * (vq w) + (5047434750082821 / 2417851639229258349412352 : Rat)) * (vq w) + (-2602714736764387 / 9444732965739290427392 : Rat)) * (vq w) + (7320136533427445 / 295147905179352825856 : Rat)) * (vq w) + (-6405119470030737 / 4611686018427387904 : Rat)) * (vq w) + (6004799503160651 / 144115188075855872 : Rat))) (163049242429 / 618970019642690137449562112 : Rat) := by rw [d15]; exact q_addE i12.1 i14.1 (by rw [← d15]; exact i15.1) r12 r14 (T := (73200945123110641 / 72057594037927936 : Rat)) (sum_T i12 i14 (by decide +kernel) (by decide +kernel)) (by decide +kernel)
  have e : fadd (fsub one (fmul 4602678819172646912 w)) (fmul (fmul w w) (cosS w)) = v15 := by subst_vars; rfl
  rw [e]
  exact ⟨r15, i15.1⟩
set_option maxRecDepth 10000 in
theorem cos_parts {w : Nat} (hw : In w 0 4603733562205377082) : Er (fsub one (fmul 4602678819172646912 w)) (1 - 1 / 2 * vq w) (179845742567 / 1237940039285380274899124224 : Rat) ∧ Fw (fsub one (fmul 4602678819172646912 w)) ∧ Er (fmul (fmul w w) (cosS w)) (vq w * vq w * pC (vq w)) (6633019689 / 1237940039285380274899124224 : Rat) ∧ Fw (fmul (fmul w w) (cosS w)) := by
  obtain ⟨v1, d1⟩ : ∃ v, v = fmul 13666448263388469915 w := ⟨_, rfl⟩
  have i1 : In v1 13663591228776072968 9223372036854775808 := by rw [d1]; exact In_mul (In.const (Fw.of (by decide +kernel))) hw (Fw.of (by decide +kernel)) (Fw.of (by decide +kernel)) (Fw.of (by decide +kernel)) (Fw.of (by decide +kernel)) (Fw.of (by decide +kernel)) (Fw.of (by decide +kernel)) (by decide +kernel) (by decide +kernel) (by decide +kernel) (by decide +kernel) (by decide +kernel) (by decide +kernel) (by decide +kernel) (by decide +kernel)
  have r1 : Er v1 (((-7030593573755547 / 618970019642690137449562112 : Rat)) * (vq w)) (1 / 1237940039285380274899124224 : Rat) := by rw [d1]; exact q_mulE (In.const (Fw.of (by decide +kernel))).1 hw.1 (by rw [← d1]; exact i1.1) (Er.const (show vq 13666448263388469915 = (-7030593573755547 / 618970019642690137449562112 : Rat) by decide +kernel)) (Er.self w) (A := (7030593573755547 / 618970019642690137449562112 : Rat)) (Y := (2779171330050333 / 4503599627370496 : Rat)) ((In.const (Fw.of (by decide +kernel))).bd (by decide +kernel) (by decide +kernel)) (hw.bd (by decide +kernel) (by decide +kernel)) (by decide +kernel)
  obtain ⟨v2, d2⟩ : ∃ v, v = fadd v1 4477121864728985349 := ⟨_, rfl⟩
  have i2 : In v2 4477104917153616737 4477121864728985349 := by rw [d2]; exact In_add i1 (In.const (Fw.of (by decide +kernel))) (Fw.of (by decide +kernel)) (Fw.of (by decide +kernel)) (Fw.of (by decide +kernel)) (Fw.of (by decide +kernel)) (by decide +kernel) (by decide +kernel) (Fw.of (by decide +kernel)) (Fw.of (by decide +kernel))
  have r2 : Er v2 (((-7030593573755547 / 618970019642690137449562112 : Rat)) * (vq w) + (5047434750082821 / 2417851639229258349412352 : Rat)) (9 / 38685626227668133590597632 : Rat) := by rw [d2]; exact q_addE i1.1 (In.const (Fw.of (by decide +kernel))).1 (by rw [← d2]; exact i2.1) r1 (Er.const (show vq 4477121864728985349 = (5047434750082821 / 2417851639229258349412352 : Rat) by decide +kernel)) (T := (5047434750082821 / 2417851639229258349412352 : Rat)) (sum_T i1 (In.const (Fw.of (by decide +kernel))) (by decide +kernel) (by decide +kernel)) (by decide +kernel)
  obtain ⟨v3, d3⟩ : ∃ v, v = fmul v2 w := ⟨_, rfl⟩
  have i3 : In v3 0 4473800374320084249 := by rw [d3]; exact In_mul i2 hw (Fw.of (by decide +kernel)) (Fw.of (by decide +kernel)) (Fw.of (by decide +kernel)) (Fw.of (by decide +kernel)) (Fw.of (by decide +kernel)) (Fw.of (by decide +kernel)) (by decide +kernel) (by decide +kernel) (by decide +kernel) (by decide +kernel) (by decide +kernel) (by decide +kernel) (by decide +kernel) (by decide +kernel)
  have r3 : Er v3 ((((-7030593573755547 / 618970019642690137449562112 : Rat)) * (vq w) + (5047434750082821 / 2417851639229258349412352 : Rat)) * (vq w)) (355 / 1237940039285380274899124224 : Rat) := by rw [d3]; exact q_mulE i2.1 hw.1 (by rw [← d3]; exact i3.1) r2 (Er.self w) (A := (5047434750082821 / 2417851639229258349412352 : Rat)) (Y := (2779171330050333 / 4503599627370496 : Rat)) (i2.bd (by decide +kernel) (by decide +kernel)) (hw.bd (by decide +kernel) (by decide +kernel)) (by decide +kernel)
  obtain ⟨v4, d4⟩ : ∃ v, v = fadd v3 13732177093698800582 := ⟨_, rfl⟩
  have i4 : In v4 13732177093698800582 13732152759542673425 := by rw [d4]; exact In_add i3 (In.const (Fw.of (by decide +kernel))) (Fw.of (by decide +kernel)) (Fw.of (by decide +kernel)) (Fw.of (by decide +kernel)) (Fw.of (by decide +kernel)) (by decide +kernel) (by decide +kernel) (Fw.of (by decide +kernel)) (Fw.of (by decide +kernel))
  have r4 : Er v4 ((((-7030593573755547 / 618970019642690137449562112 : Rat)) * (vq w) + (5047434750082821 / 2417851639229258349412352 : Rat)) * (vq w) + (-2602714736764387 / 9444732965739290427392 : Rat)) (19115 / 618970019642690137449562112 : Rat) := by rw [d4]; exact q_addE i3.1 (In.const (Fw.of (by decide +kernel))).1 (by rw [← d4]; exact i4.1) r3 (Er.const (show vq 13732177093698800582 = (-2602714736764387 / 9444732965739290427392 : Rat) by decide +kernel)) (T := (2602714736764387 / 9444732965739290427392 : Rat)) (sum_T i3 (In.const (Fw.of (by decide +kernel))) (by decide +kernel) (by decide +kernel)) (by decide +kernel)
  obtain ⟨v5, d5⟩ : ∃ v, v = fmul v4 w := ⟨_, rfl⟩
  have i5 : In v5 13728892605654130525 9223372036854775808 := by rw [d5]; exact In_mul i4 hw (Fw.of (by decide +kernel)) (Fw.of (by decide +kernel)) (Fw.of (by decide +kernel)) (Fw.of (by decide +kernel)) (Fw.of (by decide +kernel)) (Fw.of (by decide +kernel)) (by decide +kernel) (by decide +kernel) (by decide +kernel) (by decide +kernel) (by decide +kernel) (by decide +kernel) (by decide +kernel) (by decide +kernel)
  have r5 : Er v5 (((((-7030593573755547 / 618970019642690137449562112 : Rat)) * (vq w) + (5047434750082821 / 2417851639229258349412352 : Rat)) * (vq w) + (-2602714736764387 / 9444732965739290427392 : Rat)) * (vq w)) (46965 / 1237940039285380274899124224 : Rat) := by rw [d5]; exact q_mulE i4.1 hw.1 (by rw [← d5]; exact i5.1) r4 (Er.self w) (A := (2602714736764387 / 9444732965739290427392 : Rat)) (Y := (2779171330050333 / 4503599627370496 : Rat)) (i4.bd (by decide +kernel) (by decide +kernel)) (hw.bd (by decide +kernel) (by decide +kernel)) (by decide +kernel)
  obtain ⟨v6, d6⟩ : ∃ v, v = fadd v5 4537941361668146421 := ⟨_, rfl⟩
  have i6 : In v6 4537891169941144630 4537941361668146421 := by rw [d6]; exact In_add i5 (In.const (Fw.of (by decide +kernel))) (Fw.of (by decide +kernel)) (Fw.of (by decide +kernel)) (Fw.of (by decide +kernel)) (Fw.of (by decide +kernel)) (by decide +kernel) (by decide +kernel) (Fw.of (by decide +kernel)) (Fw.of (by decide +kernel))
  have r6 : Er v6 (((((-7030593573755547 / 618970019642690137449562112 : Rat)) * (vq w) + (5047434750082821 / 2417851639229258349412352 : Rat)) * (vq w) + (-2602714736764387 / 9444732965739290427392 : Rat)) * (vq w) + (7320136533427445 / 295147905179352825856 : Rat)) (1727835 / 618970019642690137449562112 : Rat) := by rw [d6]; exact q_addE i5.1 (In.const (Fw.of (by decide +kernel))).1 (by rw [← d6]; exact i6.1) r5 (Er.const (show vq 4537941361668146421 = (7320136533427445 / 295147905179352825856 : Rat) by decide +kernel)) (T := (7320136533427445 / 295147905179352825856 : Rat)) (sum_T i5 (In.const (Fw.of (by decide +kernel))) (by decide +kernel) (by decide +kernel)) (by decide +kernel)
  obtain ⟨v7, d7⟩ : ∃ v, v = fmul v6 w := ⟨_, rfl⟩
  have i7 : In v7 0 4535138481389497052 := by rw [d7]; exact In_mul i6 hw (Fw.of (by decide +kernel)) (Fw.of (by decide +kernel)) (Fw.of (by decide +kernel)) (Fw.of (by decide +kernel)) (Fw.of (by decide +kernel)) (Fw.of (by decide +kernel)) (by decide +kernel) (by decide +kernel) (by decide +kernel) (by decide +kernel) (by decide +kernel) (by decide +kernel) (by decide +kernel) (by decide +kernel)
  have r7 : Er v7 ((((((-7030593573755547 / 618970019642690137449562112 : Rat)) * (vq w) + (5047434750082821 / 2417851639229258349412352 : Rat)) * (vq w) + (-2602714736764387 / 9444732965739290427392 : Rat)) * (vq w) + (7320136533427445 / 295147905179352825856 : Rat)) * (vq w)) (2118003 / 618970019642690137449562112 : Rat) := by rw [d7]; exact q_mulE i6.1 hw.1 (by rw [← d7]; exact i7.1) r6 (Er.self w) (A := (7320136533427445 / 295147905179352825856 : Rat)) (Y := (2779171330050333 / 4503599627370496 : Rat)) (i6.bd (by decide +kernel) (by decide +kernel)) (hw.bd (by decide +kernel) (by decide +kernel)) (by decide +kernel)
  obtain ⟨v8, d8⟩ : ∃ v, v = fadd v7 13787419979223748497 := ⟨_, rfl⟩
  have i8 : In v8 13787419979223748497 13787349397094767590 := by rw [d8]; exact In_add i7 (In.const (Fw.of (by decide +kernel))) (Fw.of (by decide +kernel)) (Fw.of (by decide +kernel)) (Fw.of (by decide +kernel)) (Fw.of (by decide +kernel)) (by decide +kernel) (by decide +kernel) (Fw.of (by decide +kernel)) (Fw.of (by decide +kernel))
  have r8 : Er v8 ((((((-7030593573755547 / 618970019642690137449562112 : Rat)) * (vq w) + (5047434750082821 / 2417851639229258349412352 : Rat)) * (vq w) + (-2602714736764387 / 9444732965739290427392 : Rat)) * (vq w) + (7320136533427445 / 295147905179352825856 : Rat)) * (vq w) + (-6405119470030737 / 4611686018427387904 : Rat)) (97561721 / 618970019642690137449562112 : Rat) := by rw [d8]; exact q_addE i7.1 (In.const (Fw.of (by decide +kernel))).1 (by rw [← d8]; exact i8.1) r7 (Er.const (show vq 13787419979223748497 = (-6405119470030737 / 4611686018427387904 : Rat) by decide +kernel)) (T := (6405119470030737 / 4611686018427387904 : Rat)) (sum_T i7 (In.const (Fw.of (by decide +kernel))) (by decide +kernel) (by decide +kernel)) (by decide +kernel)
  obtain ⟨v9, d9⟩ : ∃ v, v = fmul v8 w := ⟨_, rfl⟩
  have i9 : In v9 13784416458576259199 9223372036854775808 := by rw [d9]; exact In_mul i8 hw (Fw.of (by decide +kernel)) (Fw.of (by decide +kernel)) (Fw.of (by decide +kernel)) (Fw.of (by decide +kernel)) (Fw.of (by decide +kernel)) (Fw.of (by decide +kernel)) (by decide +kernel) (by decide +kernel) (by decide +kernel) (by decide +kernel) (by decide +kernel) (by decide +kernel) (by decide +kernel) (by decide +kernel)
  have r9 : Er v9 (((((((-7030593573755547 / 618970019642690137449562112 : Rat)) * (vq w) + (5047434750082821 / 2417851639229258349412352 : Rat)) * (vq w) + (-2602714736764387 / 9444732965739290427392 : Rat)) * (vq w) + (7320136533427445 / 295147905179352825856 : Rat)) * (vq w) + (-6405119470030737 / 4611686018427387904 : Rat)) * (vq w)) (238207313 / 1237940039285380274899124224 : Rat) := by rw [d9]; exact q_mulE i8.1 hw.1 (by rw [← d9]; exact i9.1) r8 (Er.self w) (A := (6405119470030737 / 4611686018427387904 : Rat)) (Y := (2779171330050333 / 4503599627370496 : Rat)) (i8.bd (by decide +kernel) (by decide +kernel)) (hw.bd (by decide +kernel) (by decide +kernel)) (by decide +kernel)
  obtain ⟨v10, d10⟩ : ∃ v, v = fadd v9 4586165620538955083 := ⟨_, rfl⟩
  have i10 : In v10 4586042101813175209 4586165620538955083 := by rw [d10]; exact In_add i9 (In.const (Fw.of (by decide +kernel))) (Fw.of (by decide +kernel)) (Fw.of (by decide +kernel)) (Fw.of (by decide +kernel)) (Fw.of (by decide +kernel)) (by decide +kernel) (by decide +kernel) (Fw.of (by decide +kernel)) (Fw.of (by decide +kernel))
  have r10 : Er v10 (((((((-7030593573755547 / 618970019642690137449562112 : Rat)) * (vq w) + (5047434750082821 / 2417851639229258349412352 : Rat)) * (vq w) + (-2602714736764387 / 9444732965739290427392 : Rat)) * (vq w) + (7320136533427445 / 295147905179352825856 : Rat)) * (vq w) + (-6405119470030737 / 4611686018427387904 : Rat)) * (vq w) + (6004799503160651 / 144115188075855872 : Rat)) (5964830375 / 1237940039285380274899124224 : Rat) := by rw [d10]; exact q_addE i9.1 (In.const (Fw.of (by decide +kernel))).1 (by rw [← d10]; exact i10.1) r9 (Er.const (show vq 4586165620538955083 = (6004799503160651 / 144115188075855872 : Rat) by decide +kernel)) (T := (6004799503160651 / 144115188075855872 : Rat)) (sum_T i9 (In.const (Fw.of (by decide +kernel))) (by decide +kernel) (by decide +kernel)) (by decide +kernel)
  obtain ⟨v11, d11⟩ : ∃ v, v = fmul 4602678819172646912 w := ⟨_, rfl⟩
  have i11 : In v11 0 4599229962578006586 := by rw [d11]; exact In_mul (In.const (Fw.of (by decide +kernel))) hw (Fw.of (by decide +kernel)) (Fw.of (by decide +kernel)) (Fw.of (by decide +kernel)) (Fw.of (by decide +kernel)) (Fw.of (by decide +kernel)) (Fw.of (by decide +kernel)) (by decide +kernel) (by decide +kernel) (by decide +kernel) (by decide +kernel) (by decide +kernel) (by decide +kernel) (by decide +kernel) (by decide +kernel)
  have r11 : Er v11 (((1 / 2 : Rat)) * (vq w)) (21203394547 / 618970019642690137449562112 : Rat) := by rw [d11]; exact q_mulE (In.const (Fw.of (by decide +kernel))).1 hw.1 (by rw [← d11]; exact i11.1) (Er.const (show vq 4602678819172646912 = (1 / 2 : Rat) by decide +kernel)) (Er.self w) (A := (1 / 2 : Rat)) (Y := (2779171330050333 / 4503599627370496 : Rat)) ((In.const (Fw.of (by decide +kernel))).bd (by decide +kernel) (by decide +kernel)) (hw.bd (by decide +kernel) (by decide +kernel)) (by decide +kernel)
  obtain ⟨v12, d12⟩ : ∃ v, v = fsub 4607182418800017408 v11 := ⟨_, rfl⟩
  have i12 : In v12 4604403247469967075 4607182418800017408 := by rw [d12]; exact In_sub (In.const (Fw.of (by decide +kernel))) i11 (Fw.of (by decide +kernel)) (Fw.of (by decide +kernel)) (Fw.of (by decide +kernel)) (Fw.of (by decide +kernel)) (by decide +kernel) (by decide +kernel) (Fw.of (by decide +kernel)) (Fw.of (by decide +kernel))
  have r12 : Er v12 ((1 : Rat) - (((1 / 2 : Rat)) * (vq w))) (179845742567 / 1237940039285380274899124224 : Rat) := by rw [d12]; exact q_subE (In.const (Fw.of (by decide +kernel))).1 i11.1 (by rw [← d12]; exact i12.1) (Er.const (show vq 4607182418800017408 = (1 : Rat) by decide +kernel)) r11 (T := (1 : Rat)) (dif_T (In.const (Fw.of (by decide +kernel))) i11 (by decide +kernel) (by decide +kernel)) (by decide +kernel)
  obtain ⟨v13, d13⟩ : ∃ v, v = fmul w w := ⟨_, rfl⟩
  have i13 : In v13 0 4600531726429002162 := by rw [d13]; exact In_sq hw (Fw.of (by decide +kernel)) (Fw.of (by decide +kernel)) (Fw.of (by decide +kernel)) (by decide +kernel) (by decide +kernel)
  have r13 : Er v13 ((vq w) * (vq w)) (13084614775 / 309485009821345068724781056 : Rat) := by rw [d13]; exact q_mulE hw.1 hw.1 (by rw [← d13]; exact i13.1) (Er.self w) (Er.self w) (A := (2779171330050333 / 4503599627370496 : Rat)) (Y := (2779171330050333 / 4503599627370496 : Rat)) (hw.bd (by decide +kernel) (by decide +kernel)) (hw.bd (by decide +kernel) (by decide +kernel)) (by decide +kernel)
  obtain ⟨v14, d14⟩ : ∃ v, v = fmul v13 v10 := ⟨_, rfl⟩
  have i14 : In v14 0 4580230625749154756 := by rw [d14]; exact In_mul i13 i10 (Fw.of (by decide +kernel)) (Fw.of (by decide +kernel)) (Fw.of (by decide +kernel)) (Fw.of (by decide +kernel)) (Fw.of (by decide +kernel)) (Fw.of (by decide +kernel)) (by decide +kernel) (by decide +kernel) (by decide +kernel) (by decide +kernel) (by decide +kernel) (by decide +kernel) (by decide +kernel) (by decide +kernel)
  have r14 : Er v14 (((vq w) * (vq w)) * (((((((-7030593573755547 / 618970019642690137449562112 : Rat)) * (vq w) + (5047434750082821 / 2417851639229258349412352 : Rat)) * (vq w) + (-2602714736764387 / 9444732965739290427392 : Rat)) * (vq w) + (7320136533427445 / 295147905179352825856 : Rat)) * (vq w) + (-6405119470030737 / 4611686018427387904 : Rat)) * (vq w) + (6004799503160651 / 144115188075855872 : Rat))) (6633019689 / 1237940039285380274899124224 : Rat) := by rw [d14]; exact q_mulE i13.1 i10.1 (by rw [← d14]; exact i14.1) r13 r10 (A := (3430053255548121 / 9007199254740992 : Rat)) (Y := (6004799503160651 / 144115188075855872 : Rat)) (i13.bd (by decide +kernel) (by decide +kernel)) (i10.bd (by decide +kernel) (by decide +kernel)) (by decide +kernel)
  obtain ⟨v15, d15⟩ : ∃ v, v = fadd v12 v14 := ⟨_, rfl⟩
  have i15 : In v15 4604403247469967075 4607253878242841327 := by rw [d15]; exact In_add i12 i14 (Fw.of (by decide +kernel)) (Fw.of (by decide +kernel)) (Fw.of (by decide +kernel)) (Fw.of (by decide +kernel)) (by decide +kernel) (by decide +kernel) (Fw.of (by decide +kernel)) (Fw.of (by decide +kernel))
  have r15 : Er v15 ((1 : Rat) - (((1 / 2 : Rat)) * (vq w)) + ((vq w) * (vq w)) * (((((((-7030593573755547 / 618970019642690137449562112 : Rat)) * (vq w) + (5047434750082821 / 2417851639229258349412352 : Rat)) * (vq w) + (-2602714736764387 / 9444732965739290427392 : Rat)) * (vq w) + (7320136533427445 / 295147905179352825856 : Rat)) * (vq w) + (-6405119470030737 / 4611686018427387904 : Rat)) * (vq w) + (6004799503160651 / 144115188075855872 : Rat))) (163049242429 / 618970019642690137449562112 : Rat) := by rw [d15]; exact q_addE i12.1 i14.1 (by rw [← d15]; exact i15.1) r12 r14 (T := (73200945123110641 / 72057594037927936 : Rat)) (sum_T i12 i14 (by decide +kernel) (by decide +kernel)) (by decide +kernel)
  have e : fsub one (fmul 4602678819172646912 w) = v12 := by subst_vars; rfl
  have e' : fmul (fmul w w) (cosS w) = v14 := by subst_vars; rfl
  rw [e, e']
  exact ⟨r12, i12.1, r14, i14.1⟩

set_option maxRecDepth 10000 in
theorem round_ops {s c : Nat} {a b : Rat} (hs : In s 13829383519751676887 4606011482896901079) (hc : In c 4604390187031047700 4607272490792564818) (rs : Er s a (38266923419 / 309485009821345068724781056 : Rat)) (rc : Er c b (163049242429 / 618970019642690137449562112 : Rat)) :
    Er (fsub (fadd (fmul s s) (fmul c c)) 4607182418800017408) (a * a + b * b - 1) (1535196835863 / 1237940039285380274899124224 : Rat) ∧ Fw (fsub (fadd (fmul s s) (fmul c c)) 4607182418800017408) ∧ Fw (fadd (fmul s s) (fmul c c)) := by
  obtain ⟨v1, d1⟩ : ∃ v, v = fmul s s := ⟨_, rfl⟩
  have i1 : In v1 0 4604992768661189873 := by rw [d1]; exact In_sq hs (Fw.of (by decide +kernel)) (Fw.of (by decide +kernel)) (Fw.of (by decide +kernel)) (by decide +kernel) (by decide +kernel)
  have r1 : Er v1 ((a) * (a)) (5786958295 / 19342813113834066795298816 : Rat) := by rw [d1]; exact q_mulE hs.1 hs.1 (by rw [← d1]; exact i1.1) rs rs (A := (7836263351624663 / 9007199254740992 : Rat)) (Y := (7836263351624663 / 9007199254740992 : Rat)) (hs.bd (by decide +kernel) (by decide +kernel)) (hs.bd (by decide +kernel) (by decide +kernel)) (by decide +kernel)
  obtain ⟨v2, d2⟩ : ∃ v, v = fmul c c := ⟨_, rfl⟩
  have i2 : In v2 4602248275048270291 4607364364224963176 := by rw [d2]; exact In_mul hc hc (Fw.of (by decide +kernel)) (Fw.of (by decide +kernel)) (Fw.of (by decide +kernel)) (Fw.of (by decide +kernel)) (Fw.of (by decide +kernel)) (Fw.of (by decide +kernel)) (by decide +kernel) (by decide +kernel) (by decide +kernel) (by decide +kernel) (by decide +kernel) (by decide +kernel) (by decide +kernel) (by decide +kernel)
  have r2 : Er v2 ((b) * (b)) (808232396303 / 1237940039285380274899124224 : Rat) := by rw [d2]; exact q_mulE hc.1 hc.1 (by rw [← d2]; exact i2.1) rc rc (A := (2296835809958953 / 2251799813685248 : Rat)) (Y := (2296835809958953 / 2251799813685248 : Rat)) (hc.bd (by decide +kernel) (by decide +kernel)) (hc.bd (by decide +kernel) (by decide +kernel)) (by decide +kernel)
  obtain ⟨v3, d3⟩ : ∃ v, v = fadd v1 v2 := ⟨_, rfl⟩
  have i3 : In v3 4602248275048270291 4610773138782919904 := by rw [d3]; exact In_add i1 i2 (Fw.of (by decide +kernel)) (Fw.of (by decide +kernel)) (Fw.of (by decide +kernel)) (Fw.of (by decide +kernel)) (by decide +kernel) (by decide +kernel) (Fw.of (by decide +kernel)) (Fw.of (by decide +kernel))
  have r3 : Er v3 ((a) * (a) + (b) * (b)) (1425616758259 / 1237940039285380274899124224 : Rat) := by rw [d3]; exact q_addE i1.1 i2.1 (by rw [← d3]; exact i3.1) r1 r2 (T := (16188639220545985 / 9007199254740992 : Rat)) (sum_T i1 i2 (by decide +kernel) (by decide +kernel)) (by decide +kernel)
  obtain ⟨v4, d4⟩ : ∃ v, v = fsub v3 4607182418800017408 := ⟨_, rfl⟩
  have i4 : In v4 13826266128089611030 4605356659511081408 := by rw [d4]; exact In_sub i3 (In.const (Fw.of (by decide +kernel))) (Fw.of (by decide +kernel)) (Fw.of (by decide +kernel)) (Fw.of (by decide +kernel)) (Fw.of (by decide +kernel)) (by decide +kernel) (by decide +kernel) (Fw.of (by decide +kernel)) (Fw.of (by decide +kernel))
  have r4 : Er v4 ((a) * (a) + (b) * (b) - ((1 : Rat))) (1535196835863 / 1237940039285380274899124224 : Rat) := by rw [d4]; exact q_subE i3.1 (In.const (Fw.of (by decide +kernel))).1 (by rw [← d4]; exact i4.1) r3 (Er.const (show vq 4607182418800017408 = (1 : Rat) by decide +kernel)) (T := (112209999465703 / 140737488355328 : Rat)) (dif_T i3 (In.const (Fw.of (by decide +kernel))) (by decide +kernel) (by decide +kernel)) (by decide +kernel)
  have e : fadd (fmul s s) (fmul c c) = v3 := by subst_vars; rfl
  have e' : fsub v3 4607182418800017408 = v4 := by subst_vars; rfl
  rw [e, e']
  exact ⟨r4, i4.1, i3.1⟩

end Go.Proofs.YtgbdplmpojkklaaDoor

namespace Go.Proofs.YtgbdplmpojkklaaDoor
open Ieee

def psl : List Rat := [(-750599937895081 / 4503599627370496 : Rat), (300239975157629 / 36028797018963968 : Rat), (-7320136532877059 / 36893488147419103232 : Rat), (6506786710177953 / 2361183241434822606848 : Rat), (-7571123942793053 / 302231454903657293676544 : Rat), (6149556183080141 / 38685626227668133590597632 : Rat)]
def pcl : List Rat := [(6004799503160651 / 144115188075855872 : Rat), (-6405119470030737 / 4611686018427387904 : Rat), (7320136533427445 / 295147905179352825856 : Rat), (-2602714736764387 / 9444732965739290427392 : Rat), (5047434750082821 / 2417851639229258349412352 : Rat), (-7030593573755547 / 618970019642690137449562112 : Rat)]
theorem psl_eq (X : Rat) : pev psl X = pS X := by
  unfold psl pS; simp only [pev]; grind
theorem pcl_eq (X : Rat) : pev pcl X = pC X := by
  unfold pcl pC; simp only [pev]; grind
def s1l : List Rat := 1 :: psl
def c1l : List Rat := 1 :: (-1 / 2) :: pcl
theorem s1l_eq (X : Rat) : pev s1l X = 1 + X * pS X := by unfold s1l; simp only [pev]; rw [psl_eq]
theorem c1l_eq (X : Rat) : pev c1l X = 1 + X * (-1 / 2 + X * pC X) := by unfold c1l; simp only [pev]; rw [pcl_eq]
def rnd : List Rat := padd (pmul [0, 1] (pmul s1l s1l)) (padd (pmul c1l c1l) [-1])
theorem rnd_eq (X : Rat) : pev rnd X = X * ((1 + X * pS X) * (1 + X * pS X)) + (1 + X * (-1 / 2 + X * pC X)) * (1 + X * (-1 / 2 + X * pC X)) - 1 := by
  unfold rnd
  rw [pev_add, pev_mul, pev_mul, pev_add, pev_mul, s1l_eq, c1l_eq]
  simp only [pev]
  grind
theorem rnd_bound {X : Rat} (h0 : 0 ≤ X) (h1 : X ≤ 6172 / 10000) : -(1 / 2 ^ 55) ≤ pev rnd X ∧ pev rnd X ≤ 1 / 2 ^ 55 :=
  pieces_bound (h := 6172 / 160000) 8 (by decide +kernel) h0 (by rw [show (2 : Rat) * ((8 : Nat) : Rat) * (6172 / 160000) = 6172 / 10000 by decide +kernel]; exact h1) (by decide)
theorem s1_bound {X : Rat} (h0 : 0 ≤ X) (h1 : X ≤ 6172 / 10000) : -(101 / 100) ≤ 1 + X * pS X ∧ 1 + X * pS X ≤ 101 / 100 := by
  rw [← s1l_eq]
  exact pieces_bound (h := 6172 / 320000) 16 (by decide +kernel) h0 (by rw [show (2 : Rat) * ((16 : Nat) : Rat) * (6172 / 320000) = 6172 / 10000 by decide +kernel]; exact h1) (by decide)
theorem pC_bound {X : Rat} (h0 : 0 ≤ X) (h1 : X ≤ 6172 / 10000) : -(1 / 20) ≤ pC X ∧ pC X ≤ 1 / 20 := by
  rw [← pcl_eq]
  exact pieces_bound (h := 6172 / 80000) 4 (by decide +kernel) h0 (by rw [show (2 : Rat) * ((4 : Nat) : Rat) * (6172 / 80000) = 6172 / 10000 by decide +kernel]; exact h1) (by decide)

end Go.Proofs.YtgbdplmpojkklaaDoor

namespace Go.Proofs.YtgbdplmpojkklaaDoor
open Ieee

theorem RnS.exact2 {x : Nat} (h : Fw x) : RnS (Go.Proofs.YtgbdplmpojkklaaDoor.sv x) 1 x := by
  obtain ⟨s, r, hr, rfl⟩ := h
  have hI := INF_lt_SGN
  rw [sv_word s r (by omega)]
  refine ⟨s, r, rfl, ?_, ?_, ?_⟩
  · have e : (SV s r).natAbs = V r := by cases s <;> simp [SV]
    rw [e]; exact Rn.exact r (by omega)
  · cases s
    · intro hz; simp [SV] at hz; omega
    · intro _; rfl
  · cases s
    · intro _; rfl
    · intro hz; simp [SV] at hz; omega
theorem sv_fin {x : Nat} (h : x < INF) : sv x = (V x : Int) := sv_word false x (Nat.lt_trans h INF_lt_SGN)
theorem sq_in {z : Nat} (hz : In z 13828622411414651273 4605250374559875465) : In (fmul z z) 0 4603733562205377082 := In_sq hz (Fw.of (by decide +kernel)) (Fw.of (by decide +kernel)) (Fw.of (by decide +kernel)) (by decide +kernel) (by decide +kernel)
theorem sq_er {z : Nat} (hz : In z 13828622411414651273 4605250374559875465) : Er (fmul z z) (vq z * vq z) ((491 / 625 : Rat) * (491 / 625 : Rat) * uq + hq) := by
  have hb : Bd z (491 / 625 : Rat) := hz.bd (by decide +kernel) (by decide +kernel)
  have h := prod_abs hb hb
  exact q_mul hz.1 hz.1 (sq_in hz).1 h.1 h.2

theorem rnd_lin {Z X p c a b : Rat} (ha : a = Z + Z * X * p) (hb : b = (1 - 1 / 2 * X) + X * X * c) : a * a + b * b - 1 = (X * ((1 + X * p) * (1 + X * p)) + (1 + X * (-1 / 2 + X * c)) * (1 + X * (-1 / 2 + X * c)) - 1) + (Z * Z - X) * ((1 + X * p) * (1 + X * p)) := by
  subst ha hb; grind
theorem rnd_fin {v e F d E : Rat} (hv : e - E ≤ v ∧ v ≤ e + E) (he : e = F + d) (hF : -(1 / 2 ^ 55) ≤ F ∧ F ≤ 1 / 2 ^ 55) (hd : -(1 / 2 ^ 52) ≤ d ∧ d ≤ 1 / 2 ^ 52) (hE : E + 1 / 2 ^ 55 + 1 / 2 ^ 52 ≤ 1 / 2 ^ 48) : -(1 / 2 ^ 48) ≤ v ∧ v ≤ 1 / 2 ^ 48 := by
  constructor <;> grind

theorem round_core {z : Nat} (hz : In z 13828622411414651273 4605250374559875465) : Bd (fsub (fadd (fmul (sinP z) (sinP z)) (fmul (cosP z) (cosP z))) 4607182418800017408) (1 / 2 ^ 48) ∧ Fw (fsub (fadd (fmul (sinP z) (sinP z)) (fmul (cosP z) (cosP z))) 4607182418800017408) := by
  have hw := sq_in hz
  have hX := hw.qb (l := 0) (u := 6172 / 10000) (by decide +kernel) (by decide +kernel)
  have rw_ := (sq_er hz).weak (e' := 1 / 2 ^ 53) (by decide +kernel)
  obtain ⟨rs, _⟩ := sin_er hz hw
  obtain ⟨rc, _⟩ := cos_er hw
  obtain ⟨h, f1, _⟩ := round_ops (sinP_in hz) (cosP_in hz) rs rc
  refine ⟨?_, f1⟩
  have b1 := s1_bound hX.1 hX.2
  have b2 := prod_abs b1 b1
  have b3 := prod_abs (show -(1 / 2 ^ 53) ≤ vq z * vq z - vq (fmul z z) ∧ vq z * vq z - vq (fmul z z) ≤ 1 / 2 ^ 53 by
    unfold Er at rw_
    generalize vq (fmul z z) = X at *
    generalize vq z * vq z = Y at *
    clear h rs rc b1 b2
    constructor <;> grind) b2
  have hF := rnd_bound hX.1 hX.2
  rw [rnd_eq] at hF
  exact rnd_fin h (rnd_lin rfl rfl) hF ⟨Rat.le_trans (by decide +kernel) b3.1, Rat.le_trans b3.2 (by decide +kernel)⟩ (by decide +kernel)

theorem one_lin {X A M p ea em : Rat} (hA : A ≤ (1 - 1 / 2 * X) + ea) (hM : M ≤ X * X * p + em) (h0 : 0 ≤ X) (h1 : X ≤ 6172 / 10000) (hp : p ≤ 1 / 20) (hX : 1 / 2 ^ 51 ≤ X) (he : ea + em ≤ 3 / 2 ^ 54) : A + M ≤ 1 := by
  have m0 := Rat.mul_nonneg h0 h0
  have m1 := Rat.mul_le_mul_of_nonneg_right hp m0
  have m2 := Rat.mul_le_mul_of_nonneg_right h1 h0
  have e1 : X * X * p = p * (X * X) := by grind
  rw [e1] at hM
  grind
def W51 : Nat := 4377498837804122112
theorem cosP_one {z : Nat} (hz : In z 13828622411414651273 4605250374559875465) : cosP z ≤ ONE := by
  have hO := ONE_lt
  have hw := sq_in hz
  have hX := hw.qb (l := 0) (u := 6172 / 10000) (by decide +kernel) (by decide +kernel)
  obtain ⟨c1, c2⟩ := (cosP_in hz).pos (by decide) (by decide) (by decide)
  have hcI : cosP z < INF := Nat.lt_of_le_of_lt c2 (by decide)
  obtain ⟨ra, fa, rm, fm⟩ := cos_parts hw
  -- the square is a positive word
  obtain ⟨s, r, hr, rfl⟩ := hz.1
  have ew : fmul (double.word s r) (double.word s r) = fmul r r := by
    rw [fmul_word s s hr hr]; cases s <;> rfl
  have hwI : fmul r r < INF := by
    obtain ⟨t, q, hq, e⟩ := hw.1
    rw [ew] at e
    have := fmul_le_INF hr hr
    have hI := INF_lt_SGN
    by_cases hh : fmul r r < INF
    · exact hh
    · have h2 : fmul r r = INF := by omega
      rw [h2] at e
      exfalso
      cases t
      · rw [word_false] at e; omega
      · rw [word_true] at e; omega
  by_cases hc : 1 / 2 ^ 51 ≤ vq (fmul (double.word s r) (double.word s r))
  · have pb := pC_bound hX.1 hX.2
    have hs : vq (fsub one (fmul 4602678819172646912 (fmul (double.word s r) (double.word s r)))) + vq (fmul (fmul (fmul (double.word s r) (double.word s r)) (fmul (double.word s r) (double.word s r))) (cosS (fmul (double.word s r) (double.word s r)))) ≤ 1 :=
      one_lin ra.2 rm.2 hX.1 hX.2 pb.2 hc (by decide +kernel)
    have e1 : vq ONE = 1 := by decide +kernel
    have hU := Uq_pos
    have hs2 := Rat.mul_le_mul_of_nonneg_right hs (show 0 ≤ Uq by grind)
    have hs3 : ((sv (fsub one (fmul 4602678819172646912 (fmul (double.word s r) (double.word s r)))) + sv (fmul (fmul (fmul (double.word s r) (double.word s r)) (fmul (double.word s r) (double.word s r))) (cosS (fmul (double.word s r) (double.word s r)))) : Int) : Rat) ≤ ((sv ONE : Int) : Rat) := by
      rw [Rat.intCast_add, svq, svq, svq, e1]
      generalize vq (fsub one (fmul 4602678819172646912 (fmul (double.word s r) (double.word s r)))) = A at *
      generalize vq (fmul (fmul (fmul (double.word s r) (double.word s r)) (fmul (double.word s r) (double.word s r))) (cosS (fmul (double.word s r) (double.word s r)))) = M at *
      clear hs ra rm pb
      grind
    have hs4 := Rat.intCast_le_intCast.1 hs3
    have hm := (fadd_RnS fa fm).mono (RnS.exact2 (x := ONE) ⟨false, ONE, hO, rfl⟩) (by omega)
    have hm' : sv (cosP (double.word s r)) ≤ sv ONE := hm
    rw [sv_fin hcI, sv_fin hO] at hm'
    exact V_le_iff.1 (Int.ofNat_le.1 hm')
  · have hlt : fmul r r ≤ W51 := by
      have h1 : vq (fmul r r) ≤ vq W51 := by
        rw [ew] at hc
        have e1 : vq W51 = 1 / 2 ^ 51 := by decide +kernel
        rw [e1]; grind
      have h2 := vq_le_inv h1
      have hWI : W51 < INF := by decide
      rw [sv_fin hwI, sv_fin hWI] at h2
      exact V_le_iff.1 (Int.ofNat_le.1 h2)
    unfold cosP
    rw [ew, one_eq]
    rw [ew] at hw
    have hWI : W51 < INF := by decide
    obtain ⟨k1, k2⟩ := (cosS_in (hw.mono (by decide +kernel) (by decide +kernel))).pos (by decide) (by decide) (by decide)
    have h1 : fmul HALF (fmul r r) ≤ ONE := Nat.le_trans (fmul_mono (by decide) hWI (Nat.le_refl _) hlt) (by decide +kernel)
    have h2 : fsub ONE (fmul HALF (fmul r r)) ≤ ONE := fsub_le hO h1
    have h3 : fmul (fmul r r) (fmul r r) ≤ fmul W51 W51 := fmul_mono hWI hWI hlt hlt
    have h4 : fmul (fmul (fmul r r) (fmul r r)) (cosS (fmul r r)) ≤ fmul (fmul W51 W51) 4586213658934980379 := fmul_mono (by decide +kernel) (by decide) h3 k2
    exact Nat.le_trans (fadd_mono hO (by decide +kernel) h2 h4) (by decide +kernel)

end Go.Proofs.YtgbdplmpojkklaaDoor
