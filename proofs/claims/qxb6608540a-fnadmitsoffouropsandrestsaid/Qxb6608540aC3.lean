/- The contracts of the functions that read a slice of strings. -/
import Derived.Test.Qxb6608540aC2
import Derived.OwnWalk
import Derived.Outline
namespace Go.Proofs.Qxb6608540a
open Go.RowKit Go.Maps

/-- len strings lie from offset off of block b on. -/
def Strs (w : World) (b off len : Nat) (ss : List ByteArray) : Prop :=
  b < w.heap.size ∧ (∀ j, j < len → w.cell? ⟨b, off + j, none⟩ = some (.string (ss.getD j ByteArray.empty))) ∧ (∀ s ∈ ss, s.size ≤ maxLen)

/-- It returned, true or false. -/
def AnyBool (e : Ending) : Prop := ∃ q : Bool, e = .returned (.bool q)

/-- It returned a number from -1 to 2^20. -/
def AnyFit (e : Ending) : Prop := ∃ r : Int, e = .returned (.int .i64 r) ∧ -1 ≤ r ∧ r ≤ 1048576

theorem getD_le {ss : List ByteArray} (h : ∀ s ∈ ss, s.size ≤ maxLen) (k : Nat) : (ss.getD k ByteArray.empty).size ≤ maxLen := by
  rw [List.getD_eq_getElem?_getD]
  by_cases hk : k < ss.length
  · rw [List.getElem?_eq_getElem hk]; exact h _ (List.getElem_mem hk)
  · rw [List.getElem?_eq_none (by omega)]; simp [maxLen]

set_option maxRecDepth 100000 in
theorem bytesA_none (x0 x1 x2 : Int) (f : ByteArray) (hf : f.size ≤ maxLen) (a : Option Addr) (cap : Nat) (w : World) :
    Calls Try.prog 12 #[.int .i64 x0, .int .i64 x1, .int .i64 x2, .string f, .slice a 0 cap] w fun e w' => AnyBool e ∧ w' = w := by
  unfold maxLen at hf
  go_enter Try.func12, Try.ntmps12
  go_wp2
  · go_ret
    exact ⟨⟨_, rfl⟩, rfl⟩
  refine wp_loop_rounds 1 ?_
  rw [rounds_succ]
  go_wp2
  go_ret
  exact ⟨⟨_, rfl⟩, rfl⟩

set_option maxRecDepth 100000 in
theorem bytesA_any (x0 x1 x2 : Int) (f : ByteArray) (hf : f.size ≤ maxLen) (b off len cap : Nat) (ss : List ByteArray) (w : World) (hs : Strs w b off len ss) :
    Calls Try.prog 12 #[.int .i64 x0, .int .i64 x1, .int .i64 x2, .string f, .slice (some ⟨b, off, none⟩) len cap] w fun e w' => AnyBool e ∧ w' = w := by
  obtain ⟨hb, hc, hsz⟩ := hs
  unfold maxLen at hf
  by_cases h1 : 1048576 < (f.size : Int)
  · clear hc
    go_enter Try.func12, Try.ntmps12
    go_wp2
    go_ret
    exact ⟨⟨_, rfl⟩, rfl⟩
  by_cases h2 : 1048576 < (len : Int)
  · clear hc
    go_enter Try.func12, Try.ntmps12
    go_wp2
    go_ret
    exact ⟨⟨_, rfl⟩, rfl⟩
  by_cases h3 : 1048576 < (f.size : Int) + (len : Int)
  · clear hc
    go_enter Try.func12, Try.ntmps12
    go_wp2
    go_ret
    exact ⟨⟨_, rfl⟩, rfl⟩
  go_enter Try.func12, Try.ntmps12
  go_wp2
  go_loop [11, 12] (fun z i => ∃ (k : Nat) (y : Int), k ≤ len ∧ i = .int .i64 k ∧ z = .int .i64 y ∧ 0 ≤ y ∧ y ≤ 1048576) (fun _ i => len - (intOf i).toNat)
  case atStart => exact ⟨0, _, Nat.zero_le _, rfl, rfl, by omega, by omega⟩
  case round =>
    obtain ⟨k, y, hk, rfl, rfl, hy0, hy1⟩ := hrel
    obtain ⟨s, hs⟩ : ∃ s, s = ss.getD k ByteArray.empty := ⟨_, rfl⟩
    have hsl : s.size ≤ maxLen := by rw [hs]; exact getD_le hsz k
    have hcx : k < len → w.cell? ⟨b, off + k, none⟩ = some (.string s) := fun h => by rw [hs]; exact hc k h
    clear hs hc
    unfold maxLen at hsl
    by_cases hlt : k < len
    · have hc1 := hcx hlt
      clear hcx
      by_cases g1 : 1048576 < (s.size : Int)
      · go_wp2
        go_ret
        exact ⟨⟨_, rfl⟩, rfl⟩
      by_cases g2 : 1048576 < y + (s.size : Int)
      · go_wp2
        go_ret
        exact ⟨⟨_, rfl⟩, rfl⟩
      go_wp2
      go_round
      case rel => exact ⟨k + 1, _, by omega, by go_num, rfl, by omega, by omega⟩
      case measure => simp [intOf]; omega
    · go_wp2
      go_ret
      exact ⟨⟨_, rfl⟩, rfl⟩

set_option maxRecDepth 100000 in
theorem fit_none (bd : Int) (h0 : -1 ≤ bd) (h1 : bd ≤ 1048576) (a : Option Addr) (cap : Nat) (w : World) :
    Calls Try.prog 13 #[.int .i64 bd, .slice a 0 cap] w fun e w' => AnyFit e ∧ w' = w := by
  by_cases h : bd < 0
  · go_enter Try.func13, Try.ntmps13
    go_wp2
    go_ret
    exact ⟨⟨_, rfl, by omega, by omega⟩, rfl⟩
  go_enter Try.func13, Try.ntmps13
  go_wp2
  refine wp_loop_rounds 1 ?_
  rw [rounds_succ]
  go_wp2
  go_ret
  exact ⟨⟨_, rfl, by omega, by omega⟩, rfl⟩

set_option maxRecDepth 100000 in
theorem fit_any (bd : Int) (h0 : -1 ≤ bd) (h1 : bd ≤ 1048576) (b off len cap : Nat) (ss : List ByteArray) (w : World) (hs : Strs w b off len ss) :
    Calls Try.prog 13 #[.int .i64 bd, .slice (some ⟨b, off, none⟩) len cap] w fun e w' => AnyFit e ∧ w' = w := by
  obtain ⟨hb, hc, hsz⟩ := hs
  by_cases h : bd < 0
  · clear hc
    go_enter Try.func13, Try.ntmps13
    go_wp2
    go_ret
    exact ⟨⟨_, rfl, by omega, by omega⟩, rfl⟩
  by_cases h2 : bd / 16 < (len : Int)
  · clear hc
    go_enter Try.func13, Try.ntmps13
    go_wp2
    go_ret
    exact ⟨⟨_, rfl, by omega, by omega⟩, rfl⟩
  go_enter Try.func13, Try.ntmps13
  go_wp2
  go_loop [0, 5] (fun z i => ∃ (k : Nat) (y : Int), k ≤ len ∧ i = .int .i64 k ∧ z = .int .i64 y ∧ 0 ≤ y ∧ y ≤ 1048576) (fun _ i => len - (intOf i).toNat)
  case atStart => exact ⟨0, _, Nat.zero_le _, rfl, rfl, by omega, by omega⟩
  case round =>
    obtain ⟨k, y, hk, rfl, rfl, hy0, hy1⟩ := hrel
    obtain ⟨s, hs⟩ : ∃ s, s = ss.getD k ByteArray.empty := ⟨_, rfl⟩
    have hsl : s.size ≤ maxLen := by rw [hs]; exact getD_le hsz k
    have hcx : k < len → w.cell? ⟨b, off + k, none⟩ = some (.string s) := fun h => by rw [hs]; exact hc k h
    clear hs hc
    unfold maxLen at hsl
    by_cases hlt : k < len
    · have hc1 := hcx hlt
      clear hcx
      by_cases g1 : y < (s.size : Int)
      · go_wp2
        go_ret
        exact ⟨⟨_, rfl, by omega, by omega⟩, rfl⟩
      go_wp2
      go_round
      case rel => exact ⟨k + 1, _, by omega, by go_num, rfl, by omega, by omega⟩
      case measure => simp [intOf]; omega
    · go_wp2
      go_ret
      exact ⟨⟨_, rfl, by omega, by omega⟩, rfl⟩
end Go.Proofs.Qxb6608540a
