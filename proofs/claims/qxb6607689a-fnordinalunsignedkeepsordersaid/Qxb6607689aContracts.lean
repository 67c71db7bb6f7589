/- The contracts of the leaves of this seat's road. -/
import Derived.Test.Qxb6607689aRows
import Derived.Test.Qxb6607689aPlain
import Derived.WalkKit
import Derived.WalkSpells
import Derived.StillTactics
import Derived.Laws.Pointers
import Derived.Deep.QuietTactic
import Derived.BigQuiet
import Derived.RowKit3
namespace Go.Proofs.Qxb6607689a
open Go.RowKit

/-- types.IntValue. -/
theorem intValue_any (n : Int) (w : World) :
    Calls Try.prog 9 #[.int .i64 n] w fun e w' =>
      e = .returned (.agg #[.int .u8 1, .int .i64 n, .nilIface]) ∧ ∃ c : Array Value, w' = w.alloc (.cells c 26) := by
  go_enter Try.func9, Try.ntmps9
  go_wp2
  simp [bodyPost, results, Try.results9, go_sem]
  exact ⟨_, rfl⟩

theorem textValue_any (s : ByteArray) (w : World) :
    Calls Try.prog 11 #[.string s] w fun e w' =>
      e = .returned (.agg #[.int .u8 3, .int .i64 0, .iface 9 (.string s)]) ∧ ∃ c : Array Value, w' = w.alloc (.cells c 26) := by
  go_enter Try.func11, Try.ntmps11
  go_wp2
  simp [bodyPost, results, Try.results11, go_sem]
  exact ⟨_, rfl⟩

theorem int_any (k n : Int) (r : Value) (w : World) :
    Calls Try.prog 10 #[.agg #[.int .u8 k, .int .i64 n, r]] w fun e w' =>
      e = .returned (.tuple #[.int .i64 n, .bool (k == 1)]) ∧ ∃ (c : Array Value) (q : Nat), w' = (w.alloc (.cells c 26)).drewN q := by
  go_enter Try.func10, Try.ntmps10
  go_wp2
  go_quiet (fail)
  go_wp2
  go_ret2
  exact ⟨rfl, _, _, rfl⟩

/-- types.Value.Uint, of an integer or an unsigned value, or of another kind. -/
theorem uint_unsigned (n : Int) (r : Value) (w : World) :
    Calls Try.prog 13 #[.agg #[.int .u8 4, .int .i64 n, r]] w fun e w' =>
      e = .returned (.tuple #[.int .u64 (IntKind.u64.wrap n), .bool true]) ∧ ∃ (c : Array Value) (q : Nat), w' = (w.alloc (.cells c 26)).drewN q := by
  go_enter Try.func13, Try.ntmps13
  go_wp2
  go_quiet (fail)
  go_wp2
  go_ret2
  exact ⟨rfl, _, _, rfl⟩

theorem uint_integer (n : Int) (r : Value) (w : World) (b : Bool) (hb : decide (0 ≤ n) = b) :
    Calls Try.prog 13 #[.agg #[.int .u8 1, .int .i64 n, r]] w fun e w' =>
      e = .returned (.tuple #[.int .u64 (IntKind.u64.wrap n), .bool b]) ∧ ∃ (c : Array Value) (q : Nat), w' = (w.alloc (.cells c 26)).drewN q := by
  go_enter Try.func13, Try.ntmps13
  go_wp2
  go_quiet (fail)
  go_wp2
  go_ret2
  exact ⟨rfl, _, _, rfl⟩

theorem uint_other (k n : Int) (h4 : (k == 4) = false) (h1 : (k == 1) = false) (r : Value) (w : World) :
    Calls Try.prog 13 #[.agg #[.int .u8 k, .int .i64 n, r]] w fun e w' =>
      e = .returned (.tuple #[.int .u64 (IntKind.u64.wrap n), .bool false]) ∧ ∃ (c : Array Value) (q : Nat), w' = (w.alloc (.cells c 26)).drewN q := by
  go_enter Try.func13, Try.ntmps13
  go_wp2
  go_quiet (fail)
  go_wp2
  go_ret2
  exact ⟨rfl, _, _, rfl⟩

theorem zzunsigned_any (u : Int) (w : World) :
    Calls Try.prog 16 #[.int .u64 u] w fun e w' =>
      e = .returned (.agg #[.int .u8 4, .int .i64 (wrap64 u), .nilIface]) ∧ ∃ c : Array Value, w' = w.alloc (.cells c 26) := by
  go_enter Try.func16, Try.ntmps16
  go_wp2
  simp [bodyPost, results, Try.results16, go_sem]
  exact ⟨_, rfl⟩

theorem ordinal_signed (k l sc n kd : Int) (r : Value) (w : World) :
    Calls Try.prog 15 #[.agg #[.int .u8 k, .int .i64 l, .int .i64 sc, .bool false], .agg #[.int .u8 kd, .int .i64 n, r]] w fun e w' =>
      e = .returned (.int .i64 n) ∧ ∃ c1 c2 : Array Value, w' = (w.alloc (.cells c1 37)).alloc (.cells c2 26) := by
  go_enter Try.func15, Try.ntmps15
  go_wp2
  go_ret
  exact ⟨rfl, _, _, rfl⟩

theorem ordinal_unsigned (k l sc n kd : Int) (r : Value) (w : World) :
    Calls Try.prog 15 #[.agg #[.int .u8 k, .int .i64 l, .int .i64 sc, .bool true], .agg #[.int .u8 kd, .int .i64 n, r]] w fun e w' =>
      e = .returned (.int .i64 (flip n)) ∧ ∃ c1 c2 : Array Value, w' = (w.alloc (.cells c1 37)).alloc (.cells c2 26) := by
  go_enter Try.func15, Try.ntmps15
  go_wp2
  go_ret
  exact ⟨rfl, _, _, rfl⟩

/-- zzValueOfUint: below 2^63 and from there on. -/
theorem valueOfUint_low (u : Int) (hu : u < 9223372036854775808) (w : World) :
    Calls Try.prog 12 #[.int .u64 u] w fun e w' =>
      e = .returned (.agg #[.int .u8 1, .int .i64 (wrap64 u), .nilIface]) ∧ ∃ c1 c2 : Array Value, w' = (w.alloc (.cells c1 26)).alloc (.cells c2 26) := by
  go_enter Try.func12, Try.ntmps12
  go_wp2_with (go_at_call 9; refine (intValue_any _ _).mono ?_; rintro e w' ⟨rfl, c, rfl⟩)
  simp [bodyPost, results, Try.results12, go_sem]
  exact ⟨_, _, rfl⟩

theorem valueOfUint_high (u : Int) (hu : ¬ u < 9223372036854775808) (w : World) :
    Calls Try.prog 12 #[.int .u64 u] w fun e w' =>
      e = .returned (.agg #[.int .u8 4, .int .i64 (wrap64 u), .nilIface]) ∧ ∃ c1 c2 : Array Value, w' = (w.alloc (.cells c1 26)).alloc (.cells c2 26) := by
  go_enter Try.func12, Try.ntmps12
  go_wp2_with (go_at_call 16; refine (zzunsigned_any _ _).mono ?_; rintro e w' ⟨rfl, c, rfl⟩)
  simp [bodyPost, results, Try.results12, go_sem]
  exact ⟨_, _, rfl⟩
end Go.Proofs.Qxb6607689a
