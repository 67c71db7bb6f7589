/- Plain laws on a uint64 as int64 and back: no Go in sight. -/
import Derived.Test.Qxb6607689aPlain
import Derived.Test.Qxb6607689aContracts2
namespace Go.Proofs.Qxb6607689a
open Go.RowKit

theorem back_u64 (u : Int) (_h0 : 0 ≤ u) (_h1 : u ≤ 18446744073709551615) : (IntKind.u64.wrap (wrap64 u) == u) = true := by
  rw [IntKind.wrap_u64, beq_iff_eq]
  unfold wrap64
  omega

theorem uok_low (u : Int) (_h0 : 0 ≤ u) (_h1 : u < 9223372036854775808) : uok 1 (wrap64 u) = true := by
  have : 0 ≤ wrap64 u := by unfold wrap64; omega
  simp [uok, this]

theorem uok_high (n : Int) : uok 4 n = true := by simp [uok]

/-- The kind that the value of u bears. -/
def kindOf (u : Int) : Int := if u < 9223372036854775808 then 1 else 4

theorem valueOfUint_any (u : Int) (w : World) :
    Calls Try.prog 12 #[.int .u64 u] w fun e w' =>
      e = .returned (.agg #[.int .u8 (kindOf u), .int .i64 (wrap64 u), .nilIface]) ∧ ∃ c1 c2 : Array Value, w' = (w.alloc (.cells c1 26)).alloc (.cells c2 26) := by
  unfold kindOf
  by_cases h : u < 9223372036854775808
  · rw [if_pos h]
    exact valueOfUint_low u h w
  · rw [if_neg h]
    exact valueOfUint_high u h w

theorem flip_back (u : Int) (_h0 : 0 ≤ u) (_h1 : u ≤ 18446744073709551615) : (IntKind.u64.wrap (IntKind.u64.wrap (flip (wrap64 u)) + 9223372036854775808) == u) = true := by
  rw [IntKind.wrap_u64, IntKind.wrap_u64, flip_eq, beq_iff_eq]
  unfold wrap64
  omega

theorem flip_order (a b : Int) (_h0 : 0 ≤ a) (_h1 : a ≤ 18446744073709551615) (_h2 : 0 ≤ b) (_h3 : b ≤ 18446744073709551615) :
    (decide (a < b) == decide (flip (wrap64 a) < flip (wrap64 b))) = true := by
  rw [flip_eq, flip_eq, beq_iff_eq, decide_eq_decide]
  unfold wrap64
  omega

end Go.Proofs.Qxb6607689a
