/-
Logarithms and the inverse hyperbolic functions as plain functions on words. No program in sight.
-/
import Derived.Test.YtgbdplmpojkklaaDoorFpK
namespace Go.Proofs.YtgbdplmpojkklaaDoor
open Ieee

def TWO : Nat := 4611686018427387904
def LHI : Nat := 4604418534311723008
def LLO : Nat := 4461442080421002358
def l1R (z : Nat) : Nat :=
  fmul z (fadd 4604180019048437139 (fmul z (fadd 4600877379321592324 (fmul z (fadd 4598818590951641945 (fmul z (fadd 4597174411056806063 (fmul z (fadd 4595719342595441630 (fmul z (fadd 4594685411790997151 (fmul z 4594499633228436036))))))))))))
def l1H (f : Nat) : Nat := fmul (fmul 4602678819172646912 f) f
def l1S (f : Nat) : Nat := fdiv f (fadd 4611686018427387904 f)
def l1Q (f : Nat) : Nat := fmul (l1S f) (fadd (l1H f) (l1R (fmul (l1S f) (l1S f))))
/-- What log1p makes of its parts: z: 'the digits are 0', y: 'the exponent is 0'. -/
def l1T (z y : Bool) (f K c : Nat) : Nat :=
  if z then
    if feq f 0 then (if y then 0 else fadd (fmul K 4604418534311723008) (fadd c (fmul K 4461442080421002358)))
    else if y then fsub f (fmul (l1H f) (fsub 4607182418800017408 (fmul 4604180019048437077 f)))
    else fsub (fmul K 4604418534311723008) (fsub (fsub (fmul (l1H f) (fsub 4607182418800017408 (fmul 4604180019048437077 f))) (fadd (fmul K 4461442080421002358) c)) f)
  else if y then fsub f (fsub (l1H f) (l1Q f))
  else fsub (fmul K 4604418534311723008) (fsub (fsub (l1H f) (fadd (l1Q f) (fadd (fmul K 4461442080421002358) c))) f)
def l1C (b1 : Bool) (a u : Nat) : Nat := if b1 then fdiv (fsub 4607182418800017408 (fsub u a)) u else fdiv (fsub a (fsub u 4607182418800017408)) u
/-- Behind the normalized number: m its digits, k its exponent. -/
def l1M (c m : Nat) (k : Int) : Nat :=
  if m < 1865452045155277 then l1T (m == 0) (k == 0) (fsub (4607182418800017408 + m) 4607182418800017408) (ofI k) c
  else l1T ((4503599627370496 - m) / 4 == 0) (k + 1 == 0) (fsub (4602678819172646912 + m) 4607182418800017408) (ofI (k + 1)) c
def l1K (u : Nat) : Int := (u / 4503599627370496 : Nat) - 1023
/-- Log1p of a positive finite number. -/
def log1pF (a : Nat) : Nat :=
  if flt a 4601133428098527026 then
    (if flt a 4476578029606273024 then (if flt a 4363988038922010624 then a else fsub a (fmul (fmul a a) 4602678819172646912))
     else l1T false true a 0 0)
  else if flt a 4845873199050653696 then
    l1M (l1C (decide (0 < l1K (fadd 4607182418800017408 a))) a (fadd 4607182418800017408 a)) (fadd 4607182418800017408 a % 4503599627370496) (l1K (fadd 4607182418800017408 a))
  else l1M 0 (a % 4503599627370496) (l1K a)

/-- The machine's logarithm. -/
def logK (x : Nat) : Nat := ofI (Int.ofNat (x / 2 ^ 52) - 0x3FE)
def logMain (x : Nat) : Nat :=
  let f1 := x % 2 ^ 52 + 0x3FE0000000000000
  let small := !flt 0x3FE6A09E667F3BCD f1
  let k := fsub (logK x) (if small then one else 0)
  let f1 := fmul f1 (fadd (if small then one else 0) one)
  let f := fsub f1 one
  let s := fdiv f (fadd 0x4000000000000000 f)
  let s2 := fmul s s
  let s4 := fmul s2 s2
  let t1 := fmul s2 (fadd (fmul (fadd (fmul (fadd (fmul 0x3FC2F112DF3E5244 s4) 0x3FC7466496CB03DE) s4) 0x3FD2492494229359) s4) 0x3FE5555555555593)
  let t2 := fmul s4 (fadd (fmul (fadd (fmul 0x3FC39A09D078C69F s4) 0x3FCC71C51D8E78AF) s4) 0x3FD999999997FA04)
  let r := fadd t1 t2
  let hfsq := fmul (fmul 0x3FE0000000000000 f) f
  let inner := fadd (fmul s (fadd r hfsq)) (fmul 0x3DEA39EF35793C76 k)
  fsub (fmul k 0x3FE62E42FEE00000) (fsub (fsub hfsq inner) f)
def logF (x : Nat) : Nat :=
  if x % 2 ^ 63 = 0 then 0xFFF0000000000000
  else if 2 ^ 63 ≤ x then cnan
  else if 0x7FF0000000000000 ≤ x then x
  else logMain x

-- Asinh, Acosh, Atanh
def asinhA (x : Nat) : Nat :=
  if fgt x 4733283208366391296 then fadd (logF x) 4604418534313441775
  else if fgt x 4611686018427387904 then logF (fadd (fmul 4611686018427387904 x) (fdiv one (fadd (fsqrt (fadd (fmul x x) one)) x)))
  else if flt x 4481081629233643520 then x
  else log1pF (fadd x (fdiv (fmul x x) (fadd one (fsqrt (fadd one (fmul x x))))))
def asinhF (x : Nat) : Nat :=
  if isNanF x || infA x then x
  else if flt x 0 then fneg (asinhA (fneg x)) else asinhA x
def acoshF (x : Nat) : Nat :=
  if flt x one || isNanF x then cnan
  else if feq x one then 0
  else if fge x 4733283208366391296 then fadd (logF x) 4604418534313441775
  else if fgt x 4611686018427387904 then logF (fsub (fmul 4611686018427387904 x) (fdiv one (fadd x (fsqrt (fsub (fmul x x) one)))))
  else log1pF (fadd (fsub x one) (fsqrt (fadd (fmul 4611686018427387904 (fsub x one)) (fmul (fsub x one) (fsub x one)))))
def atanhA (x : Nat) : Nat :=
  if flt x 4481081629233643520 then x
  else if flt x 4602678819172646912 then fmul 4602678819172646912 (log1pF (fadd (fadd x x) (fdiv (fmul (fadd x x) x) (fsub one x))))
  else fmul 4602678819172646912 (log1pF (fdiv (fadd x x) (fsub one x)))
def atanhF (x : Nat) : Nat :=
  if flt x 13830554455654793216 || fgt x one || isNanF x then cnan
  else if feq x one then 9218868437227405312
  else if feq x 13830554455654793216 then 18442240474082181120
  else if flt x 0 then fneg (atanhA (fneg x)) else atanhA x

-- the statements
def atanhCasesF (x : Nat) : Bool :=
  if beyondF x then isNanF (atanhF x)
  else if feq x one || feq x 13830554455654793216 then sameF (atanhF x) (likeF infF x)
  else metF 1 0 false x (atanhF x)
def acoshCasesF (x : Nat) : Bool :=
  if flt x one || isNanF x then isNanF (acoshF x) else fne x infF || feq (acoshF x) infF
def asinhCasesF (x : Nat) : Bool := metF 1 1 false x (asinhF x)
def turnedFarF (x : Nat) : Bool := sameF (asinhF (fneg x)) (fneg (asinhF x)) && sameF (atanhF (fneg x)) (fneg (atanhF x))
def farOneF (x : Nat) : Bool := feq (acoshF one) 0 && (!fgt x one || fgt (acoshF x) 0) && fgt (asinhF one) 0
def farFiniteF (x : Nat) : Bool :=
  if !isFiniteF x then true
  else isFiniteF (asinhF x) && (flt x one || isFiniteF (acoshF x)) && (fge (sizeF x) one || isFiniteF (atanhF x)) && (feq x 0 || fne (asinhF x) 0)

end Go.Proofs.YtgbdplmpojkklaaDoor
