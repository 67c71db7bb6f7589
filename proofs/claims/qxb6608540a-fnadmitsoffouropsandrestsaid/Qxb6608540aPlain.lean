/- Plain arithmetic for this seat: no Go in sight. -/
import Derived.Laws.BitsAllLaws
import Derived.Lib.Mul64
import Derived.RowKit
namespace Go.Proofs.Qxb6608540a
open Go.RowKit

/-- How two numbers compare: -1, 0, 1. -/
def sgn (a b : Int) : Int := if a < b then -1 else if b < a then 1 else 0

/-- How two numbers of two words compare. -/
def cmpE (h1 l1 h2 l2 : Int) : Int := if h1 = h2 then sgn l1 l2 else sgn h1 h2

def hiOf (x : Int) : Int := x / 18446744073709551616
def loOf (x : Int) : Int := x % 18446744073709551616

theorem cmpE_eq (x y : Int) : cmpE (hiOf x) (loOf x) (hiOf y) (loOf y) = sgn x y := by
  unfold cmpE sgn hiOf loOf
  split <;> repeat' split
  all_goals omega

/-- Amount.Abs. -/
def absW (n : Int) : Int := if n < 0 then wrap64 (-n) else n
/-- zzUabs. -/
def uabs (n : Int) : Int := if n < 0 then IntKind.u64.wrap (-IntKind.u64.wrap n) else IntKind.u64.wrap n

theorem wrap_abs (n : Int) : IntKind.u64.wrap (absW n) = uabs n := by
  unfold absW uabs
  split
  · rw [IntKind.wrap_u64, IntKind.wrap_u64, IntKind.wrap_u64]
    unfold wrap64
    omega
  · rfl

/-- op.admits. -/
def meets (o : List UInt8) (c : Int) : Bool :=
  if o == [62, 61] then decide (0 ≤ c) else if o == [62] then decide (0 < c) else if o == [60, 61] then decide (c ≤ 0) else if o == [60] then decide (c < 0) else false

theorem maskN (a : Nat) (ha : a < 18446744073709551616) : bits .and .u64 (a : Int) 4294967295 = ((a % 4294967296 : Nat) : Int) := by
  have h := u64_and_nat a 4294967295 ha (by omega)
  rw [show a &&& 4294967295 = a % 4294967296 from Nat.and_two_pow_sub_one_eq_mod a 32] at h
  exact h
theorem divN (a : Nat) : (a : Int) / 4294967296 = ((a / 4294967296 : Nat) : Int) := by omega
theorem mulN (a b : Nat) : (a : Int) * (b : Int) = ((a * b : Nat) : Int) := (Int.natCast_mul a b).symm
theorem addN (a b : Nat) : (a : Int) + (b : Int) = ((a + b : Nat) : Int) := (Int.natCast_add a b).symm
theorem wrapN (a : Nat) (ha : a < 18446744073709551616) : IntKind.u64.wrap (a : Int) = (a : Int) := by rw [IntKind.wrap_u64]; omega
theorem wrapM (a : Nat) : IntKind.u64.wrap (a : Int) = ((a % 18446744073709551616 : Nat) : Int) := by rw [IntKind.wrap_u64]; omega

/-- The product of two words, as the machine reads them. -/
def prod (a b : Int) : Int := IntKind.u64.wrap a * IntKind.u64.wrap b

theorem wrap_bd (n : Int) : 0 ≤ IntKind.u64.wrap n ∧ IntKind.u64.wrap n < 18446744073709551616 := by
  rw [IntKind.wrap_u64]
  omega

end Go.Proofs.Qxb6608540a
