/- The contract of zzBytes_FnAdmitsOfFourOpsAndRest: it answers true or false; nothing turns. -/
import Derived.Test.Qxb6608540aD3
namespace Go.Proofs.Qxb6608540a
open Go.RowKit Go.Maps

/-- Element k of the slice at a can be read. -/
theorem Sl.at {w : World} {a : Option Addr} {len : Nat} (h : Sl w a len) (k : Nat) (hk : k < len) :
    ∃ (b off : Nat) (s : ByteArray), a = some ⟨b, off, none⟩ ∧ s.size ≤ maxLen ∧ w.cell? ⟨b, off + k, none⟩ = some (.string s) := by
  obtain ⟨_, h | ⟨b, off, ss, e, _, hc, hs⟩⟩ := h
  · omega
  · exact ⟨b, off, _, e, getD_le hs k, hc k hk⟩

set_option maxHeartbeats 2000000 in
set_option maxRecDepth 100000 in
theorem bytesB {w : World} {a2 a5 : Option Addr} {l2 l5 : Nat} (h2 : Sl w a2 l2) (h5 : Sl w a5 l5) (c2 c5 : Nat) (a6 : Option Addr) (l6 c6 : Nat) (h6 : l6 * 8 ≤ 140737488351232) (x1 x3 x4 : Int) (o f : ByteArray) (ho : o.size ≤ maxLen) (hf : f.size ≤ maxLen) :
    Calls Try.prog 26 #[.string o, .int .i64 x1, .slice a2 l2 c2, .int .i64 x3, .int .i64 x4, .slice a5 l5 c5, .slice a6 l6 c6, .string f] w fun e w' => AnyBool e ∧ w' = w := by
  unfold maxLen at ho hf
  have hr2 := h2.1
  have hr5 := h5.1
  by_cases g1 : 1048576 < (o.size : Int)
  · go_enter Try.func26, Try.ntmps26
    go_wp2
    go_ret
    exact ⟨⟨_, rfl⟩, rfl⟩
  by_cases g2 : 1048576 < (l2 : Int)
  · go_enter Try.func26, Try.ntmps26
    go_wp2
    go_ret
    exact ⟨⟨_, rfl⟩, rfl⟩
  by_cases g3 : 1048576 < (o.size : Int) + (l2 : Int)
  · go_enter Try.func26, Try.ntmps26
    go_wp2
    go_ret
    exact ⟨⟨_, rfl⟩, rfl⟩
  go_enter Try.func26, Try.ntmps26
  go_wp2
  go_loop [17, 18] (fun z i => ∃ (k : Nat) (y : Int), k ≤ l2 ∧ i = .int .i64 k ∧ z = .int .i64 y ∧ 0 ≤ y ∧ y ≤ 1048576) (fun _ i => l2 - (intOf i).toNat)
  case atStart => exact ⟨0, _, Nat.zero_le _, rfl, rfl, by omega, by omega⟩
  case round =>
    obtain ⟨k, y, hk, rfl, rfl, hy0, hy1⟩ := hrel
    by_cases hlt : k < l2
    · obtain ⟨b, off, s, e, hsl, hc⟩ := h2.at k hlt
      subst e
      unfold maxLen at hsl
      by_cases t1 : 1048576 < (s.size : Int)
      · go_wp2
        go_ret
        exact ⟨⟨_, rfl⟩, rfl⟩
      by_cases t2 : 1048576 < y + (s.size : Int)
      · go_wp2
        go_ret
        exact ⟨⟨_, rfl⟩, rfl⟩
      go_wp2
      go_round
      case rel => exact ⟨k + 1, _, by omega, by go_num, rfl, by omega, by omega⟩
      case measure => simp [intOf]; omega
    · by_cases g4 : 1048576 < (l5 : Int)
      · go_wp2
        go_ret
        exact ⟨⟨_, rfl⟩, rfl⟩
      by_cases g5 : 1048576 < y + (l5 : Int)
      · go_wp2
        go_ret
        exact ⟨⟨_, rfl⟩, rfl⟩
      go_wp2
      go_loop [17, 19] (fun z i => ∃ (k : Nat) (y : Int), k ≤ l5 ∧ i = .int .i64 k ∧ z = .int .i64 y ∧ 0 ≤ y ∧ y ≤ 1048576) (fun _ i => l5 - (intOf i).toNat)
      case atStart => exact ⟨0, _, Nat.zero_le _, rfl, rfl, by omega, by omega⟩
      case round =>
        obtain ⟨k5, y5, hk5, rfl, rfl, hz0, hz1⟩ := hrel
        by_cases hlt5 : k5 < l5
        · obtain ⟨b, off, s, e, hsl, hc⟩ := h5.at k5 hlt5
          subst e
          unfold maxLen at hsl
          by_cases t1 : 1048576 < (s.size : Int)
          · go_wp2
            go_ret
            exact ⟨⟨_, rfl⟩, rfl⟩
          by_cases t2 : 1048576 < y5 + (s.size : Int)
          · go_wp2
            go_ret
            exact ⟨⟨_, rfl⟩, rfl⟩
          go_wp2
          go_round
          case rel => exact ⟨k5 + 1, _, by omega, by go_num, rfl, by omega, by omega⟩
          case measure => simp [intOf]; omega
        · by_cases t1 : 1048576 < (l6 : Int)
          · go_wp2
            go_ret
            exact ⟨⟨_, rfl⟩, rfl⟩
          by_cases t2 : 1048576 < y5 + (l6 : Int)
          · go_wp2
            go_ret
            exact ⟨⟨_, rfl⟩, rfl⟩
          by_cases t3 : 1048576 < (f.size : Int)
          · go_wp2
            go_ret
            exact ⟨⟨_, rfl⟩, rfl⟩
          by_cases t4 : 1048576 < y5 + (l6 : Int) + (f.size : Int)
          · go_wp2
            go_ret
            exact ⟨⟨_, rfl⟩, rfl⟩
          go_wp2
          go_ret
          exact ⟨⟨_, rfl⟩, rfl⟩
end Go.Proofs.Qxb6608540a
