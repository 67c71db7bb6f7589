/- The plain laws of this seat: no Go in sight. -/
import Derived.Laws.BitsAllLaws
import Derived.RowKit
namespace Go.Proofs.Qxb6607689a
open Go.RowKit

theorem nat_flip (x : Nat) (h : x < 18446744073709551616) : x ^^^ 9223372036854775808 = (x + 9223372036854775808) % 18446744073709551616 := by
  have hd : (x ^^^ 9223372036854775808) / 2 ^ 63 = x / 2 ^ 63 ^^^ 9223372036854775808 / 2 ^ 63 := Nat.xor_div_two_pow
  have hm : (x ^^^ 9223372036854775808) % 2 ^ 63 = x % 2 ^ 63 ^^^ 9223372036854775808 % 2 ^ 63 := Nat.xor_mod_two_pow
  have e1 : (9223372036854775808 : Nat) / 2 ^ 63 = 1 := by decide
  have e2 : (9223372036854775808 : Nat) % 2 ^ 63 = 0 := by decide
  have e3 : (2 : Nat) ^ 63 = 9223372036854775808 := by decide
  rw [e1, e3] at hd
  rw [e2, Nat.xor_zero, e3] at hm
  generalize x ^^^ 9223372036854775808 = z at *
  have hx : x / 9223372036854775808 = 0 ∨ x / 9223372036854775808 = 1 := by omega
  rcases hx with hx | hx
  · rw [hx] at hd
    have : (0 ^^^ 1 : Nat) = 1 := by decide
    omega
  · rw [hx] at hd
    have : (1 ^^^ 1 : Nat) = 0 := by decide
    omega

/-- The ordinal of an unsigned type: the sign bit turned. -/
def flip (n : Int) : Int := wrap64 (bits .xor .u64 (IntKind.u64.wrap n) 9223372036854775808)

theorem flip_eq (n : Int) : flip n = wrap64 (n + 9223372036854775808) := by
  unfold flip
  rw [IntKind.wrap_u64]
  have h0 : 0 ≤ n % 18446744073709551616 := by omega
  have h1 : n % 18446744073709551616 < 18446744073709551616 := by omega
  rw [u64_xor _ _ h0 h1 (by decide) (by decide)]
  have e : (9223372036854775808 : Int).toNat = 9223372036854775808 := by decide
  rw [e, nat_flip _ (by omega)]
  unfold wrap64
  omega

theorem flip_min (n : Int) : (flip n == wrap64 (n + -9223372036854775808)) = true := by
  rw [flip_eq, beq_iff_eq]
  unfold wrap64
  omega

end Go.Proofs.Qxb6607689a
