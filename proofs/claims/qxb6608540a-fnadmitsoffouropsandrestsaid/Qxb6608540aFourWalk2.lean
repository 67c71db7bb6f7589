/- FnAdmitsOfFourOpsAndRest: every input. -/
import Derived.Test.Qxb6608540aFourWalk
namespace Go.Proofs.Qxb6608540a
open Go.RowKit Go.Maps

set_option maxHeartbeats 1000000 in
set_option maxRecDepth 100000 in
theorem four_neg (op f : ByteArray) (share aS aB : Int) (a2 a5 a6 : Option Addr) (l2 c2 l5 c5 l6 c6 : Nat) (ss : List ByteArray) (w : World)
    (h2 : Sl w a2 l2) (h5 : Ks w a5 l5 ss) (hr6 : l6 * 8 ≤ 140737488351232) (ho : op.size ≤ maxLen) (hf : f.size ≤ maxLen) (hB : aB < 0) :
    Calls Try.prog 8 #[.string op, .int .i64 share, .slice a2 l2 c2, .int .i64 aS, .int .i64 aB, .slice a5 l5 c5, .slice a6 l6 c6, .string f] w fun e w' => e = .returned (.bool true) ∧ Below w.heap.size w w' := by
  go_enter Try.func8, Try.ntmps8
  go_wp2_with fail
  refine (bytesB h2 h5.sl c2 c5 a6 l6 c6 hr6 _ _ _ op f ho hf).mono ?_
  rintro e w' ⟨⟨q, rfl⟩, hw⟩
  obtain rfl := hw.symm
  cases q
  · go_wp2
    go_ret
    exact ⟨rfl, Below.refl _ _⟩
  by_cases hol : 1048576 < (op.size : Int)
  · go_wp2
    go_ret
    exact ⟨rfl, Below.refl _ _⟩
  go_wp2_with fail
  refine (fit h2 c2 _ (by omega) (by omega)).mono ?_
  rintro e w' ⟨⟨r, rfl, hr0, hr1⟩, hw⟩
  obtain rfl := hw.symm
  by_cases hr : r < 0
  · go_wp2
    go_ret
    exact ⟨rfl, Below.refl _ _⟩
  go_wp2_with fail
  refine (fit h5.sl c5 _ (by omega) (by omega)).mono ?_
  rintro e w' ⟨⟨r2, rfl, hs0, hs1⟩, hw⟩
  obtain rfl := hw.symm
  by_cases hs : r2 < 0
  · go_wp2
    go_ret
    exact ⟨rfl, Below.refl _ _⟩
  by_cases ht : r2 / 8 < (l6 : Int)
  · go_wp2
    go_ret
    exact ⟨rfl, Below.refl _ _⟩
  by_cases hu : r2 - 8 * (l6 : Int) < (f.size : Int)
  · go_wp2
    go_ret
    exact ⟨rfl, Below.refl _ _⟩
  go_wp2
  go_ret
  exact ⟨rfl, Below.refl _ _⟩

theorem not_lt_dec (C : Int) : decide (0 < C) = !decide (C ≤ 0) := by
  rw [Bool.eq_iff_iff]; simp
theorem not_le_dec (C : Int) : decide (C < 0) = !decide (0 ≤ C) := by
  rw [Bool.eq_iff_iff]; simp

theorem four_walk (op f : ByteArray) (share aS aB : Int) (a2 a5 a6 : Option Addr) (l2 c2 l5 c5 l6 c6 : Nat) (ss : List ByteArray) (zs : List Int) (w : World)
    (h2 : Sl w a2 l2) (h5 : Ks w a5 l5 ss) (h6 : Vs w a6 l6 zs) (ho : op.size ≤ maxLen) (hf : f.size ≤ maxLen) :
    Calls Try.prog 8 #[.string op, .int .i64 share, .slice a2 l2 c2, .int .i64 aS, .int .i64 aB, .slice a5 l5 c5, .slice a6 l6 c6, .string f] w fun e w' => e = .returned (.bool true) ∧ Below w.heap.size w w' := by
  by_cases hB : aB < 0
  · exact four_neg op f share aS aB a2 a5 a6 l2 c2 l5 c5 l6 c6 ss w h2 h5 h6.1 ho hf hB
  have hX : prod aB aS = IntKind.u64.wrap aS * IntKind.u64.wrap aB := Int.mul_comm _ _
  have hc : sgn (IntKind.u64.wrap aS * IntKind.u64.wrap aB) (IntKind.u64.wrap share * uabs (lookTo ss zs f (min l5 l6))) = sgn (prod aB aS) (uabs (lookTo ss zs f (min l5 l6)) * IntKind.u64.wrap share) := by
    rw [hX, Int.mul_comm (uabs _)]
  obtain ⟨z1, z2, z3, z4⟩ := meets_four (sgn (prod aB aS) (uabs (lookTo ss zs f (min l5 l6)) * IntKind.u64.wrap share))
  have z5 : meets op.toList (sgn (prod aB aS) (uabs (lookTo ss zs f (min l5 l6)) * IntKind.u64.wrap share)) = meets op.toList (sgn (prod aB aS) (uabs (lookTo ss zs f (min l5 l6)) * IntKind.u64.wrap share)) := rfl
  rw [not_lt_dec] at z2
  rw [not_le_dec] at z4
  refine four_core op f share aS aB a2 a5 a6 l2 c2 l5 c5 l6 c6 ss zs w h2 h5 h6 ho hf hB _ rfl _ _ _ _ hc ((zz_at _ _ _ _).trans z1) ((zz_at _ _ _ _).trans z2) ((zz_at _ _ _ _).trans z3) ((zz_at _ _ _ _).trans z4) ((zz_at _ _ _ _).trans z5) rfl rfl ?_ ?_ ?_ ?_ ?_
  · intro t1
    simp [meets, t1]
  · intro t1 t2
    simp only [meets, t1, t2, Bool.false_eq_true, if_false, if_true]
    exact not_lt_dec _
  · intro t1 t2 t3
    simp [meets, t1, t2, t3]
  · intro t1 t2 t3 t4
    simp only [meets, t1, t2, t3, t4, Bool.false_eq_true, if_false, if_true]
    exact not_le_dec _
  · intro t1 t2 t3 t4
    simp [meets, t1, t2, t3, t4]
end Go.Proofs.Qxb6608540a
