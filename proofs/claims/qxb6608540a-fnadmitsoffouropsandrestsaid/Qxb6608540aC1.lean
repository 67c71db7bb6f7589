/- The contracts of the leaves. -/
import Derived.Test.Qxb6608540aRows
import Derived.Test.Qxb6608540aPlain
import Derived.WalkKit
import Derived.WalkSpells
import Derived.StillTactics
import Derived.Laws.Pointers
import Derived.Deep.QuietTactic
import Derived.BigQuiet
import Derived.RowKit3
namespace Go.Proofs.Qxb6608540a
open Go.RowKit

theorem cmp_any (x y : Int) (w : World) :
    Calls Try.prog 36 #[.int .u64 x, .int .u64 y] w fun e w' => e = .returned (.int .i64 (sgn x y)) ∧ w' = w := by
  unfold sgn
  by_cases h1 : x < y
  · rw [if_pos h1]
    go_enter Try.func36, Try.ntmps36
    go_wp2
    go_ret
    exact ⟨rfl, rfl⟩
  · rw [if_neg h1]
    by_cases h2 : y < x
    · rw [if_pos h2]
      go_enter Try.func36, Try.ntmps36
      go_wp2
      go_ret
      exact ⟨rfl, rfl⟩
    · rw [if_neg h2]
      go_enter Try.func36, Try.ntmps36
      go_wp2
      go_ret
      exact ⟨rfl, rfl⟩

theorem compare_any (h1 l1 h2 l2 : Int) (w : World) :
    Calls Try.prog 34 #[.agg #[.int .u64 h1, .int .u64 l1], .agg #[.int .u64 h2, .int .u64 l2]] w fun e w' =>
      e = .returned (.int .i64 (cmpE h1 l1 h2 l2)) ∧ ∃ c1 c2 : Array Value, w' = (w.alloc (.cells c1 36)).alloc (.cells c2 36) := by
  unfold cmpE
  by_cases h : h1 = h2
  · subst h
    rw [if_pos rfl]
    go_enter Try.func34, Try.ntmps34
    go_wp2_with (go_at_call 36; refine (cmp_any _ _ _).mono ?_; rintro e w' ⟨rfl, rfl⟩)
    go_ret
    exact ⟨rfl, _, _, rfl⟩
  · rw [if_neg h]
    have hb : (h1 != h2) = true := by simpa using h
    go_enter Try.func34, Try.ntmps34
    go_wp2_with (go_at_call 36; refine (cmp_any _ _ _).mono ?_; rintro e w' ⟨rfl, rfl⟩)
    go_ret
    exact ⟨rfl, _, _, rfl⟩

theorem abs_any (n : Int) (w : World) :
    Calls Try.prog 23 #[.int .i64 n] w fun e w' => e = .returned (.int .i64 (absW n)) ∧ w' = w := by
  unfold absW
  by_cases h : n < 0
  · rw [if_pos h]
    go_enter Try.func23, Try.ntmps23
    go_wp2
    go_ret
    exact ⟨rfl, rfl⟩
  · rw [if_neg h]
    go_enter Try.func23, Try.ntmps23
    go_wp2
    go_ret
    exact ⟨rfl, rfl⟩

theorem uabs_any (n : Int) (w : World) :
    Calls Try.prog 16 #[.int .i64 n] w fun e w' => e = .returned (.int .u64 (uabs n)) ∧ w' = w := by
  unfold uabs
  by_cases h : n < 0
  · rw [if_pos h]
    go_enter Try.func16, Try.ntmps16
    go_wp2
    go_ret
    exact ⟨rfl, rfl⟩
  · rw [if_neg h]
    go_enter Try.func16, Try.ntmps16
    go_wp2
    go_ret
    exact ⟨rfl, rfl⟩

theorem admits_any (o : ByteArray) (c : Int) (w : World) :
    Calls Try.prog 33 #[.string o, .int .i64 c] w fun e w' => e = .returned (.bool (meets o.toList c)) ∧ w' = w := by
  go_enter Try.func33, Try.ntmps33
  go_wp2
  all_goals (go_ret; exact ⟨by simp [meets, *], rfl⟩)

set_option maxHeartbeats 1000000 in
theorem mul64_nat (x y : Nat) (hx : x < 18446744073709551616) (hy : y < 18446744073709551616) (w : World) :
    Calls Try.prog 28 #[.int .u64 x, .int .u64 y] w fun e w' => e = .returned (.tuple #[.int .u64 ((x * y / 18446744073709551616 : Nat) : Int), .int .u64 ((x * y % 18446744073709551616 : Nat) : Int)]) ∧ w' = w := by
  obtain ⟨bd, bt, bw, hhi⟩ := Lib.mul64_hi x y hx hy
  have ba := Lib.half_mul_le (a := x / 4294967296) (b := y / 4294967296) (by omega) (by omega)
  have bb := Lib.half_mul_le (a := x / 4294967296) (b := y % 4294967296) (by omega) (by omega)
  have bc := Lib.half_mul_le (a := x % 4294967296) (b := y / 4294967296) (by omega) (by omega)
  have ba' : x / 4294967296 * (y / 4294967296) < 18446744073709551616 := by omega
  have bb' : x / 4294967296 * (y % 4294967296) < 18446744073709551616 := by omega
  have bc' : x % 4294967296 * (y / 4294967296) < 18446744073709551616 := by omega
  have bh1 : x / 4294967296 * (y / 4294967296) + (x / 4294967296 * (y % 4294967296) + x % 4294967296 * (y % 4294967296) / 4294967296) / 4294967296 < 18446744073709551616 := by omega
  have bh : x / 4294967296 * (y / 4294967296) + (x / 4294967296 * (y % 4294967296) + x % 4294967296 * (y % 4294967296) / 4294967296) / 4294967296 + ((x / 4294967296 * (y % 4294967296) + x % 4294967296 * (y % 4294967296) / 4294967296) % 4294967296 + x % 4294967296 * (y / 4294967296)) / 4294967296 < 18446744073709551616 := by omega
  go_enter Try.func28, Try.ntmps28
  go_wp2
  simp only [maskN x hx, maskN y hy, divN, mulN, addN, wrapN _ bd, wrapN _ bb', wrapN _ bt, maskN _ bt, wrapN _ bc', wrapN _ bw, wrapN _ ba', wrapN _ bh1, wrapN _ bh, wrapM (x * y)]
  rw [hhi]
  go_ret2
  exact ⟨rfl, rfl⟩

theorem mul64_any (x y : Int) (hx0 : 0 ≤ x) (hx : x < 18446744073709551616) (hy0 : 0 ≤ y) (hy : y < 18446744073709551616) (w : World) :
    Calls Try.prog 28 #[.int .u64 x, .int .u64 y] w fun e w' => e = .returned (.tuple #[.int .u64 (hiOf (x * y)), .int .u64 (loOf (x * y))]) ∧ w' = w := by
  obtain ⟨a, rfl⟩ := Int.eq_ofNat_of_zero_le hx0
  obtain ⟨b, rfl⟩ := Int.eq_ofNat_of_zero_le hy0
  have e1 : hiOf ((a : Int) * b) = ((a * b / 18446744073709551616 : Nat) : Int) := by unfold hiOf; rw [mulN]; omega
  have e2 : loOf ((a : Int) * b) = ((a * b % 18446744073709551616 : Nat) : Int) := by unfold loOf; rw [mulN]; omega
  rw [e1, e2]
  exact mul64_nat a b (by omega) (by omega) w

theorem share_any (p b : Int) (w : World) :
    Calls Try.prog 15 #[.int .i64 p, .int .i64 b] w fun e w' => e = .returned (.agg #[.int .u64 (hiOf (prod b p)), .int .u64 (loOf (prod b p))]) ∧ ∃ c : Array Value, w' = w.alloc (.cells c 36) := by
  have b0 := wrap_bd b
  have p0 := wrap_bd p
  unfold prod
  go_enter Try.func15, Try.ntmps15
  go_wp2_with (go_at_call 28; refine (mul64_any _ _ b0.1 b0.2 p0.1 p0.2 _).mono ?_; rintro e w' ⟨rfl, rfl⟩)
  simp [bodyPost, results, Try.results15, go_sem]
  exact ⟨_, rfl⟩

end Go.Proofs.Qxb6608540a
