/-
Sines, cosines and tangents as plain functions on words; whole numbers of 64 bits. No program in sight.
-/
import Derived.Test.YtgbdplmpojkklaaDoorFpK
namespace Go.Proofs.YtgbdplmpojkklaaDoor
open Ieee

/-- A whole number of 64 bits. -/
def U64 (r : Nat) : Prop := r < 18446744073709551616
def usub (p q : Nat) : Nat := (p + 18446744073709551616 - q) % 18446744073709551616
def uadd (p q : Nat) : Nat := (p + q) % 18446744073709551616
def umul (p q : Nat) : Nat := p * q % 18446744073709551616
def uand (p q : Nat) : Nat := p &&& q
def uor (p q : Nat) : Nat := p ||| q
def uandNot (p q : Nat) : Nat := p &&& (18446744073709551615 - q)
def ushl (p s : Nat) : Nat := p * 2 ^ min s 64 % 18446744073709551616
def ushr (p s : Nat) : Nat := p / 2 ^ min s 64
def uquo (p q : Nat) : Nat := p / q
def urem (p q : Nat) : Nat := p % q

/-- The number of a byte's bits. -/
def bl (b : Nat) : Nat := if b = 0 then 0 else Nat.log2 b + 1
theorem bl_le {b : Nat} (h : b < 256) : bl b ≤ 8 := by
  unfold bl
  split
  · omega
  · next h0 =>
    have := (Nat.log2_lt h0).2 (show b < 2 ^ 8 from h)
    omega

def muW0 (x y : Nat) : Nat := umul (uand x 4294967295) (uand y 4294967295)
def muT (x y : Nat) : Nat := uadd (umul (ushr x 32) (uand y 4294967295)) (ushr (muW0 x y) 32)
def muHi (x y : Nat) : Nat := uadd (uadd (umul (ushr x 32) (ushr y 32)) (ushr (muT x y) 32)) (ushr (uadd (uand (muT x y) 4294967295) (umul (uand x 4294967295) (ushr y 32))) 32)

theorem muHi_lt (x y : Nat) : U64 (muHi x y) := Nat.mod_lt _ (by decide)
theorem umul_lt (x y : Nat) : U64 (umul x y) := Nat.mod_lt _ (by decide)
theorem uadd_lt (x y : Nat) : U64 (uadd x y) := Nat.mod_lt _ (by decide)


def lenA (x : Nat) : Nat := if 4294967296 ≤ x then x / 2 ^ 32 else x
def lenB (x : Nat) : Nat := if 65536 ≤ lenA x then lenA x / 2 ^ 16 else lenA x
def lenC (x : Nat) : Nat := if 256 ≤ lenB x then lenB x / 2 ^ 8 else lenB x
def lenN (x : Nat) : Nat := (if 4294967296 ≤ x then 32 else 0) + (if 65536 ≤ lenA x then 16 else 0) + (if 256 ≤ lenB x then 8 else 0)
def lenF (x : Nat) : Nat := lenN x + bl (lenC x)
theorem lenC_lt {x : Nat} (h : U64 x) : lenC x < 256 := by
  unfold U64 at h
  have h1 : lenA x < 4294967296 := by unfold lenA; split <;> omega
  have h2 : lenB x < 65536 := by unfold lenB; split <;> omega
  unfold lenC; split <;> omega
theorem lenF_le {x : Nat} (h : U64 x) : lenF x ≤ 64 := by
  have := bl_le (lenC_lt h)
  unfold lenF lenN
  split <;> split <;> split <;> omega

def lzF (x : Nat) : Nat := 64 - lenF x
theorem lzF_le (x : Nat) : lzF x ≤ 64 := Nat.sub_le _ _

-- THE REDUCTION OF GREAT NUMBERS
def mpT : List Nat := [1, 5040379952546458195, 17892431488136887169, 13169980181085364355, 18204331823439776451, 7946843935494350272, 905889640498799673, 18175356263134875261, 15061281708168349961, 15220161563773041794, 8296664548579374057, 4109744767560208502, 4607516669194743839, 16023283104648321598, 15739233654134936430, 11424645774684705882, 16883842788696515318, 8795094592981902804, 15561835991111744016, 12395701187267450711]
def mp (d : Nat) : Nat := mpT.getD d 0
/-- The exponent's place among the digits of 4/Pi. -/
def trE (x : Nat) : Nat := x / 4503599627370496 - 1014
def trD (x : Nat) : Nat := trE x / 64
def trS (x : Nat) : Nat := trE x % 64
def trI (x : Nat) : Nat := uor (uandNot x 9218868437227405312) 4503599627370496
def trZ0 (x : Nat) : Nat := uor (ushl (mp (trD x)) (trS x)) (ushr (mp (trD x + 1)) (usub 64 (trS x)))
def trZ1 (x : Nat) : Nat := uor (ushl (mp (trD x + 1)) (trS x)) (ushr (mp (trD x + 2)) (usub 64 (trS x)))
def trZ2 (x : Nat) : Nat := uor (ushl (mp (trD x + 2)) (trS x)) (ushr (mp (trD x + 3)) (usub 64 (trS x)))
def trLoS (x : Nat) : Nat := umul (trZ1 x) (trI x) + muHi (trZ2 x) (trI x) + 0
def trLo (x : Nat) : Nat := trLoS x % 18446744073709551616
def trHi (x : Nat) : Nat := (umul (trZ0 x) (trI x) + muHi (trZ1 x) (trI x) + trLoS x / 18446744073709551616) % 18446744073709551616
def trJ0 (x : Nat) : Nat := ushr (trHi x) 61
def trH (x : Nat) : Nat := uor (ushl (trHi x) 3) (ushr (trLo x) 61)
def trL (x : Nat) : Nat := uadd (lzF (trH x)) 1
def trF (x : Nat) : Nat := ushr (uor (ushl (trH x) (trL x)) (ushr (trLo x) (usub 64 (trL x)))) 12
def trW (x : Nat) : Nat := uor (trF x) (ushl (usub 1023 (trL x)) 52)
def PI4 : Nat := 4605249457297304856
def trJ (x : Nat) : Nat := if uand (trJ0 x) 1 = 1 then uand (uadd (trJ0 x) 1) 7 else trJ0 x
def trZ (x : Nat) : Nat := if uand (trJ0 x) 1 = 1 then fmul (fsub (trW x) one) PI4 else fmul (trW x) PI4

-- THE REDUCTION OF SMALL NUMBERS
def TH29 : Nat := 4737786807993761792
/-- The whole part of a positive finite number. -/
def truncF (w : Nat) : Nat := V w / U
def smJ (r : Nat) : Nat := truncF (fmul r 4608412980311869571)
def smY (r : Nat) : Nat := if uand (smJ r) 1 = 1 then fadd (fi (smJ r)) one else fi (smJ r)
def smK (r : Nat) : Nat := if uand (smJ r) 1 = 1 then uadd (smJ r) 1 else smJ r
def smZ (r : Nat) : Nat := fsub (fsub (fsub r (fmul (smY r) 4605249456957292544)) (fmul (smY r) 4495793288086814720)) (fmul (smY r) 4388835458085048688)
def redJ (r : Nat) : Nat := if fge r TH29 then trJ r else uand (smK r) 7
def redZ (r : Nat) : Nat := if fge r TH29 then trZ r else smZ r
def redT (r : Nat) : Nat := if fge r TH29 then trJ r else smK r

-- THE POLYNOMIALS
def sinS (zz : Nat) : Nat := fadd (fmul (fadd (fmul (fadd (fmul (fadd (fmul (fadd (fmul 4460209587652500685 zz) 13716528389658582877) zz) 4523617212962785441) zz) 13774824197404483331) zz) 4575957461383575504) zz) 13818544856648471880
def cosS (zz : Nat) : Nat := fadd (fmul (fadd (fmul (fadd (fmul (fadd (fmul (fadd (fmul 13666448263388469915 zz) 4477121864728985349) zz) 13732177093698800582) zz) 4537941361668146421) zz) 13787419979223748497) zz) 4586165620538955083
def sinP (z : Nat) : Nat := fadd z (fmul (fmul z (fmul z z)) (sinS (fmul z z)))
def cosP (z : Nat) : Nat := fadd (fsub one (fmul 4602678819172646912 (fmul z z))) (fmul (fmul (fmul z z) (fmul z z)) (cosS (fmul z z)))
def tanN (zz : Nat) : Nat := fadd (fmul (fadd (fmul 13891795985540005688 zz) 4697705128000265693) zz) 13938957415113920886
def tanD (zz : Nat) : Nat := fadd (fmul (fadd (fmul (fadd (fmul (fadd zz 4668746986536789362) zz) 13921796037995576470) zz) 4717478346167605487) zz) 13945871098756094513
def tanP (z : Nat) : Nat := if fgt (fmul z z) 4397347889687374747 then fadd z (fmul z (fdiv (fmul (fmul z z) (tanN (fmul z z))) (tanD (fmul z z)))) else z

-- SIN, COS, TAN OF POSITIVE NUMBERS, AND OF ALL
def negIf (b : Bool) (y : Nat) : Nat := if b then fneg y else y
def sinR (s : Bool) (r : Nat) : Nat := negIf (s ^^ decide (3 < redJ r)) (if redJ r % 4 = 2 then cosP (redZ r) else sinP (redZ r))
def cosR (r : Nat) : Nat := negIf (decide (3 < redJ r) ^^ decide (redJ r % 4 = 2)) (if redJ r % 4 = 2 then sinP (redZ r) else cosP (redZ r))
def tanR (s : Bool) (r : Nat) : Nat := negIf s (if uand (redT r) 2 = 2 then fdiv 13830554455654793216 (tanP (redZ r)) else tanP (redZ r))
def sinF (x : Nat) : Nat := if feq x 0 || isNanF x then x else if infA x then cnan else if flt x 0 then sinR true (fneg x) else sinR false x
def cosF (x : Nat) : Nat := if isNanF x || infA x then cnan else cosR (absF x)
def tanF (x : Nat) : Nat := if feq x 0 || isNanF x then x else if infA x then cnan else if flt x 0 then tanR true (fneg x) else tanR false x
def scS (x : Nat) : Nat := if feq x 0 then x else if isNanF x || infA x then cnan else if flt x 0 then sinR true (fneg x) else sinR false x
def scC (x : Nat) : Nat := if feq x 0 then one else if isNanF x || infA x then cnan else if flt x 0 then cosR (fneg x) else cosR x

end Go.Proofs.YtgbdplmpojkklaaDoor
