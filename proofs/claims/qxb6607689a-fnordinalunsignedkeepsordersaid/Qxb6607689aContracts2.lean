/- The contracts of the two length bounds. -/
import Derived.Test.Qxb6607689aContracts
import Derived.Test.Qxb6607689aPlain2
namespace Go.Proofs.Qxb6607689a
open Go.RowKit

theorem Grown.drewN {W w' : World} (h : Grown W w') (n : Nat) : Grown W (w'.drewN n) := h

/-- Does Uint accept a value of kind k that holds n? -/
def uok (k n : Int) : Bool := k == 4 || (k == 1 && decide (0 ≤ n))

theorem uint_any (k n : Int) (r : Value) (w : World) :
    Calls Try.prog 13 #[.agg #[.int .u8 k, .int .i64 n, r]] w fun e w' =>
      e = .returned (.tuple #[.int .u64 (IntKind.u64.wrap n), .bool (uok k n)]) ∧ ∃ (c : Array Value) (q : Nat), w' = (w.alloc (.cells c 26)).drewN q := by
  by_cases h4 : k = 4
  · subst h4
    exact uint_unsigned n r w
  · by_cases h1 : k = 1
    · subst h1
      exact uint_integer n r w _ (by simp [uok])
    · have e : uok k n = false := by simp [uok, h4, h1]
      rw [e]
      exact uint_other k n (by simp [h4]) (by simp [h1]) r w

theorem uok_text : uok 3 0 = false := by decide
theorem uok_null : uok 0 0 = false := by decide

theorem zzBytesA_yes (n : Int) (s : ByteArray) (h : (s.size : Int) ≤ 1048576) (w : World) :
    Calls Try.prog 8 #[.int .i64 n, .string s] w fun e w' => e = .returned (.bool true) ∧ w' = w := by
  go_enter Try.func8, Try.ntmps8
  go_wp2
  go_ret
  exact ⟨rfl, rfl⟩
theorem zzBytesA_no (n : Int) (s : ByteArray) (h : 1048576 < (s.size : Int)) (w : World) :
    Calls Try.prog 8 #[.int .i64 n, .string s] w fun e w' => e = .returned (.bool false) ∧ w' = w := by
  go_enter Try.func8, Try.ntmps8
  go_wp2
  go_ret
  exact ⟨rfl, rfl⟩
theorem zzBytesB_yes (n : Int) (s : ByteArray) (h : (s.size : Int) ≤ 1048576) (w : World) :
    Calls Try.prog 14 #[.int .i64 n, .string s] w fun e w' => e = .returned (.bool true) ∧ w' = w := by
  go_enter Try.func14, Try.ntmps14
  go_wp2
  go_ret
  exact ⟨rfl, rfl⟩
theorem zzBytesB_no (n : Int) (s : ByteArray) (h : 1048576 < (s.size : Int)) (w : World) :
    Calls Try.prog 14 #[.int .i64 n, .string s] w fun e w' => e = .returned (.bool false) ∧ w' = w := by
  go_enter Try.func14, Try.ntmps14
  go_wp2
  go_ret
  exact ⟨rfl, rfl⟩
end Go.Proofs.Qxb6607689a
