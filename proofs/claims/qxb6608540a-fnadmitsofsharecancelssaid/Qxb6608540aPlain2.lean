/- The plain law of FnAdmitsOfShareCancels: the share cancels. No Go in sight. -/
import Derived.Test.Qxb6608540aC5
import Derived.OpenShut
namespace Go.Proofs.Qxb6608540a
open Go.RowKit

theorem prod_abs (v p : Int) : prod (absW v) p = uabs v * IntKind.u64.wrap p := by
  unfold prod
  rw [wrap_abs]

theorem zz_sgn (o : List UInt8) (a v p : Int) : zz o (hiOf (prod a p)) (loOf (prod a p)) v p = meets o (sgn (IntKind.u64.wrap a * IntKind.u64.wrap p) (uabs v * IntKind.u64.wrap p)) := by
  unfold zz
  rw [cmpE_eq, prod_abs]
  rfl

theorem wrap_pos (p : Int) (h : (p == 0) = false) (hp : (Lit.int .i64 p).wf = true) : 0 < IntKind.u64.wrap p := by
  have hb := bounds_i64 hp
  have : p ≠ 0 := by simpa using h
  rw [IntKind.wrap_u64]
  omega

theorem sgn_same (x : Int) : sgn x x = 0 := by simp [sgn]
theorem sgn_lt (x y s : Int) (hs : 0 < s) (h : x < y) : sgn (x * s) (y * s) = -1 := by
  have := Int.mul_lt_mul_of_pos_right h hs
  simp [sgn, this]
theorem sgn_gt (x y s : Int) (hs : 0 < s) (h : y < x) : sgn (x * s) (y * s) = 1 := by
  have := Int.mul_lt_mul_of_pos_right h hs
  have h2 : ¬ x * s < y * s := by omega
  simp [sgn, this, h2]

theorem str_ge : (ByteArray.mk #[62, 61]).toList = [62, 61] := by simp [go_sem]
theorem str_gt : (ByteArray.mk #[62]).toList = [62] := by simp [go_sem]
theorem str_le : (ByteArray.mk #[60, 61]).toList = [60, 61] := by simp [go_sem]
theorem str_lt : (ByteArray.mk #[60]).toList = [60] := by simp [go_sem]

/-- The four answers at a comparison c. -/
theorem meets_four (c : Int) : meets (ByteArray.mk #[62, 61]).toList c = decide (0 ≤ c) ∧ meets (ByteArray.mk #[62]).toList c = decide (0 < c) ∧
    meets (ByteArray.mk #[60, 61]).toList c = decide (c ≤ 0) ∧ meets (ByteArray.mk #[60]).toList c = decide (c < 0) := by
  rw [str_ge, str_gt, str_le, str_lt]
  simp [meets]
end Go.Proofs.Qxb6608540a
