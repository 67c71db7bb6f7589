/- The contracts of zzMul128 and zzCmpProducts. -/
import Derived.Test.Qxb6608540aC1
namespace Go.Proofs.Qxb6608540a
open Go.RowKit

theorem joinN (a m : Nat) (ha : a < 4294967296) (hm : m < 18446744073709551616) (hd : m % 4294967296 = 0) : bits .or .u64 (a : Int) (m : Int) = ((a + m : Nat) : Int) := by
  rw [u64_or_nat a m (by omega) hm]
  have e : a ||| m = a + m := by
    rw [Nat.or_comm]
    have := nat_join 32 m a (by simpa using hd) (by simpa using ha)
    omega
  rw [e]

/-- The four products of halves, and what they make. -/
theorem school (x y : Nat) (hx : x < 18446744073709551616) (hy : y < 18446744073709551616) :
    IntKind.u64.wrap (IntKind.u64.wrap (IntKind.u64.wrap (IntKind.u64.wrap (((x : Int) / 4294967296) * ((y : Int) / 4294967296)) + IntKind.u64.wrap (bits .and .u64 (x : Int) 4294967295 * ((y : Int) / 4294967296)) / 4294967296) + IntKind.u64.wrap (((x : Int) / 4294967296) * bits .and .u64 (y : Int) 4294967295) / 4294967296) + IntKind.u64.wrap (IntKind.u64.wrap (IntKind.u64.wrap (bits .and .u64 (x : Int) 4294967295 * bits .and .u64 (y : Int) 4294967295) / 4294967296 + bits .and .u64 (IntKind.u64.wrap (bits .and .u64 (x : Int) 4294967295 * ((y : Int) / 4294967296))) 4294967295) + bits .and .u64 (IntKind.u64.wrap (((x : Int) / 4294967296) * bits .and .u64 (y : Int) 4294967295)) 4294967295) / 4294967296) = ((x * y / 18446744073709551616 : Nat) : Int) ∧
    bits .or .u64 (bits .and .u64 (IntKind.u64.wrap (bits .and .u64 (x : Int) 4294967295 * bits .and .u64 (y : Int) 4294967295)) 4294967295) (IntKind.u64.wrap (IntKind.u64.wrap (IntKind.u64.wrap (IntKind.u64.wrap (bits .and .u64 (x : Int) 4294967295 * bits .and .u64 (y : Int) 4294967295) / 4294967296 + bits .and .u64 (IntKind.u64.wrap (bits .and .u64 (x : Int) 4294967295 * ((y : Int) / 4294967296))) 4294967295) + bits .and .u64 (IntKind.u64.wrap (((x : Int) / 4294967296) * bits .and .u64 (y : Int) 4294967295)) 4294967295) * 4294967296)) = ((x * y % 18446744073709551616 : Nat) : Int) := by
  have e : x * y = (x / 4294967296) * (y / 4294967296) * (4294967296 * 4294967296) + ((x / 4294967296) * (y % 4294967296) + (x % 4294967296) * (y / 4294967296)) * 4294967296 + (x % 4294967296) * (y % 4294967296) := by
    rw [← Lib.split_mul, Nat.div_add_mod' x 4294967296, Nat.div_add_mod' y 4294967296]
  have ha := Lib.half_mul_le (a := (x / 4294967296)) (b := (y / 4294967296)) (by omega) (by omega)
  have hb := Lib.half_mul_le (a := (x / 4294967296)) (b := (y % 4294967296)) (by omega) (by omega)
  have hc := Lib.half_mul_le (a := (x % 4294967296)) (b := (y / 4294967296)) (by omega) (by omega)
  have hd := Lib.half_mul_le (a := (x % 4294967296)) (b := (y % 4294967296)) (by omega) (by omega)
  rw [e]
  simp only [maskN x hx, maskN y hy, divN, mulN]
  generalize (x / 4294967296) * (y / 4294967296) = p11 at *
  generalize (x / 4294967296) * (y % 4294967296) = p10 at *
  generalize (x % 4294967296) * (y / 4294967296) = p01 at *
  generalize (x % 4294967296) * (y % 4294967296) = p00 at *
  rw [wrapN p00 (by omega), wrapN p01 (by omega), wrapN p10 (by omega), wrapN p11 (by omega)]
  simp only [divN, maskN p00 (by omega), maskN p01 (by omega), maskN p10 (by omega), addN]
  rw [wrapN (p00 / 4294967296 + p01 % 4294967296) (by omega)]
  simp only [addN]
  rw [wrapN (p00 / 4294967296 + p01 % 4294967296 + p10 % 4294967296) (by omega), wrapN (p11 + p01 / 4294967296) (by omega)]
  simp only [divN, addN]
  rw [wrapN (p11 + p01 / 4294967296 + p10 / 4294967296) (by omega)]
  simp only [addN]
  rw [wrapN (p11 + p01 / 4294967296 + p10 / 4294967296 + (p00 / 4294967296 + p01 % 4294967296 + p10 % 4294967296) / 4294967296) (by omega)]
  refine ⟨by omega, ?_⟩
  have e4 : ((p00 / 4294967296 + p01 % 4294967296 + p10 % 4294967296 : Nat) : Int) * 4294967296 = (((p00 / 4294967296 + p01 % 4294967296 + p10 % 4294967296) * 4294967296 : Nat) : Int) := by omega
  rw [e4, wrapM, joinN _ _ (by omega) (by omega) (by omega)]
  omega

theorem tup_eq {a b c d : Int} (h1 : a = c) (h2 : b = d) : Ending.returned (.tuple #[.int .u64 a, .int .u64 b]) = .returned (.tuple #[.int .u64 c, .int .u64 d]) := by rw [h1, h2]

theorem mul128_nat (x y : Nat) (hx : x < 18446744073709551616) (hy : y < 18446744073709551616) (w : World) :
    Calls Try.prog 32 #[.int .u64 x, .int .u64 y] w fun e w' => e = .returned (.tuple #[.int .u64 ((x * y / 18446744073709551616 : Nat) : Int), .int .u64 ((x * y % 18446744073709551616 : Nat) : Int)]) ∧ w' = w := by
  go_enter Try.func32, Try.ntmps32
  go_wp2
  go_ret2
  exact ⟨tup_eq (school x y hx hy).1 (school x y hx hy).2, rfl⟩

theorem mul128_any (x y : Int) (hx0 : 0 ≤ x) (hx : x < 18446744073709551616) (hy0 : 0 ≤ y) (hy : y < 18446744073709551616) (w : World) :
    Calls Try.prog 32 #[.int .u64 x, .int .u64 y] w fun e w' => e = .returned (.tuple #[.int .u64 (hiOf (x * y)), .int .u64 (loOf (x * y))]) ∧ w' = w := by
  obtain ⟨a, rfl⟩ := Int.eq_ofNat_of_zero_le hx0
  obtain ⟨b, rfl⟩ := Int.eq_ofNat_of_zero_le hy0
  have e1 : hiOf ((a : Int) * b) = ((a * b / 18446744073709551616 : Nat) : Int) := by unfold hiOf; rw [mulN]; omega
  have e2 : loOf ((a : Int) * b) = ((a * b % 18446744073709551616 : Nat) : Int) := by unfold loOf; rw [mulN]; omega
  rw [e1, e2]
  exact mul128_nat a b (by omega) (by omega) w

/-- A word. -/
def Word (x : Int) : Prop := 0 ≤ x ∧ x < 18446744073709551616

theorem cmpE_zero (h l1 l2 : Int) (g1 : l2 ≤ l1) (g2 : l1 ≤ l2) : cmpE h l1 h l2 = 0 := by
  unfold cmpE sgn
  rw [if_pos rfl, if_neg (by omega), if_neg (by omega)]

theorem cmpProducts_any (a b c d : Int) (ha : Word a) (hb : Word b) (hc : Word c) (hd : Word d) (w : World) :
    Calls Try.prog 22 #[.int .u64 a, .int .u64 b, .int .u64 c, .int .u64 d] w fun e w' => e = .returned (.int .i64 (sgn (a * b) (c * d))) ∧ w' = w := by
  rw [← cmpE_eq]
  have m1 := mul128_any a b ha.1 ha.2 hb.1 hb.2
  have m2 := mul128_any c d hc.1 hc.2 hd.1 hd.2
  generalize hiOf (a * b) = h1 at *
  generalize loOf (a * b) = l1 at *
  generalize hiOf (c * d) = h2 at *
  generalize loOf (c * d) = l2 at *
  have M1 : Hid (∀ w : World, Calls Try.prog 32 #[.int .u64 a, .int .u64 b] w fun e w' => e = .returned (.tuple #[.int .u64 h1, .int .u64 l1]) ∧ w' = w) := m1
  have M2 : Hid (∀ w : World, Calls Try.prog 32 #[.int .u64 c, .int .u64 d] w fun e w' => e = .returned (.tuple #[.int .u64 h2, .int .u64 l2]) ∧ w' = w) := m2
  clear m1 m2
  go_enter Try.func22, Try.ntmps22
  go_wp2_with fail
  refine (M1.out _).mono ?_
  rintro e w' ⟨rfl, hw⟩
  obtain rfl := hw.symm
  go_wp2_with fail
  refine (M2.out _).mono ?_
  rintro e w' ⟨rfl, hw⟩
  obtain rfl := hw.symm
  clear M1 M2
  by_cases h : h1 = h2
  · subst h
    by_cases g1 : l1 < l2
    · go_wp2
      go_ret
      exact ⟨by simp [cmpE, sgn, g1], rfl⟩
    · by_cases g2 : l2 < l1
      · go_wp2
        go_ret
        exact ⟨by simp [cmpE, sgn, g1, g2], rfl⟩
      · go_wp2
        go_ret
        exact ⟨by rw [cmpE_zero h1 l1 l2 (by omega) (by omega)]; rfl, rfl⟩
  · have hn : (h1 != h2) = true := by simpa using h
    by_cases g1 : h1 < h2
    · go_wp2
      go_ret
      exact ⟨by simp [cmpE, sgn, h, g1], rfl⟩
    · have g2 : h2 < h1 := by omega
      go_wp2
      go_ret
      exact ⟨by simp [cmpE, sgn, h, g1, g2], rfl⟩
end Go.Proofs.Qxb6608540a
