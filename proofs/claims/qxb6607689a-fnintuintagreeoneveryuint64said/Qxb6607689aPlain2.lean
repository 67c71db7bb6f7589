/- The plain law of the complement: no Go in sight. -/
import Derived.Test.Qxb6607689aPlain
namespace Go.Proofs.Qxb6607689a
open Go.RowKit

theorem ones64 : BitVec.ofInt IntKind.u64.bits (if IntKind.u64.signed = true then -1 else IntKind.u64.max) = BitVec.allOnes IntKind.u64.bits := by
  apply BitVec.eq_of_toNat_eq
  decide +kernel

theorem compl_u64 (x : Int) (h0 : 0 ≤ x) (h1 : x < 18446744073709551616) :
    bits .xor .u64 (if IntKind.u64.signed = true then -1 else IntKind.u64.max) x = 18446744073709551615 - x := by
  obtain ⟨n, rfl⟩ := Int.eq_ofNat_of_zero_le h0
  simp only [bits, ones64, IntKind.wrap_u64]
  rw [BitVec.allOnes_xor, BitVec.toNat_not]
  have e : (BitVec.ofInt IntKind.u64.bits (n : Int)).toNat = n := ofInt_u64 n (by omega)
  rw [e]
  have e2 : (2 : Nat) ^ IntKind.u64.bits = 18446744073709551616 := by decide
  rw [e2]
  omega

theorem compl_neg (n : Int) (_h0 : -9223372036854775808 ≤ n) (_h1 : n < 0) :
    (bits .xor .u64 (if IntKind.u64.signed = true then -1 else IntKind.u64.max) (IntKind.u64.wrap n) != IntKind.u64.wrap (wrap64 (-wrap64 (n + 1)))) = false := by
  rw [IntKind.wrap_u64, IntKind.wrap_u64, compl_u64 _ (by omega) (by omega), bne_eq_false_iff_eq]
  unfold wrap64
  omega
end Go.Proofs.Qxb6607689a
