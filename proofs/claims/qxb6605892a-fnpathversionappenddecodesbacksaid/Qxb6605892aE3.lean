/- The contracts of zzHasPrefix and zzReadStr. -/
import Derived.Test.Qxb6605892aE2
namespace Go.Proofs.Qxb6605892a
open Go.RowKit

set_option maxRecDepth 100000 in
theorem hasPrefix_none (g N cap c : Nat) (a : Option Addr) (w : World) :
    Calls Try.prog 14 #[.slice (some ⟨g, 0, none⟩) N cap, .slice a 0 c] w fun e w' => e = .returned (.bool true) ∧ ∃ q, w' = w.drewN q := by
  go_enter Try.func14, Try.ntmps14
  go_wp2
  refine wp_loop_rounds 1 ?_
  rw [rounds_succ]
  go_wp2
  go_ret
  exact ⟨rfl, 0, rfl⟩

set_option maxRecDepth 100000 in
theorem hasPrefix_some (g N cap b n c : Nat) (hN : N ≤ 100000000) (hn : n ≤ N) (zs : List Int) (w : World) (h1 : ∀ j, j < n → w.cell? ⟨g, j, none⟩ = some (.int .u8 (zs.getD j 0))) (h2 : ∀ j, j < n → w.cell? ⟨b, j, none⟩ = some (.int .u8 (zs.getD j 0))) :
    Calls Try.prog 14 #[.slice (some ⟨g, 0, none⟩) N cap, .slice (some ⟨b, 0, none⟩) n c] w fun e w' => e = .returned (.bool true) ∧ ∃ q, w' = w.drewN q := by
  have hnn : ¬ (N : Int) < (n : Int) := by omega
  go_enter Try.func14, Try.ntmps14
  go_wp2
  go_loopw [5] (fun i wr => ∃ (k q : Nat), k ≤ n ∧ i = .int .i64 k ∧ wr = w.drewN q) (fun i _ => n - (intOf i).toNat)
  case atStart => exact ⟨0, 0, Nat.zero_le _, rfl, rfl⟩
  case round =>
    obtain ⟨k, q, hk, rfl, rfl⟩ := hrel
    by_cases hlt : k < n
    · have d1 := h1 k hlt
      have d2 := h2 k hlt
      generalize zs.getD k 0 = z at *
      have hkz : (k : Int) < (n : Int) := by omega
      have hkN : (k : Int) < (N : Int) := by omega
      clear h1 h2
      go_wp2
      go_quiet (fail)
      go_wp2
      go_roundw
      case rel => exact ⟨k + 1, _, by omega, by go_num, rfl⟩
      case measure => simp [intOf]; omega
    · clear h1 h2
      go_wp2
      go_ret
      exact ⟨rfl, _, rfl⟩

theorem uint_tup {a b : Int} (h : a = b) : Ending.returned (.tuple #[.bool true, .int .i64 a]) = .returned (.tuple #[.bool true, .int .i64 b]) := by rw [h]

/-- A string's byte. -/
theorem str_at (s : ByteArray) (k : Nat) (h : k < s.size) : (Lib.strCells s)[k]? = some (.int .u8 (s[k].toNat : Int)) := by
  have : k < s.data.toList.length := by simpa using h
  rw [Lib.strCells, List.getElem?_map, List.getElem?_eq_getElem this]
  rfl

set_option maxRecDepth 100000 in
theorem readStr (g N cap p : Nat) (s : ByteArray) (hs : s.size ≤ 1048576) (hN : N ≤ 100000000) (hp : p + 4 + s.size ≤ N) (w : World)
    (b0 : w.cell? ⟨g, p, none⟩ = some (.int .u8 ((s.size : Int) / 16777216 % 256))) (b1 : w.cell? ⟨g, p + 1, none⟩ = some (.int .u8 ((s.size : Int) / 65536 % 256)))
    (b2 : w.cell? ⟨g, p + 2, none⟩ = some (.int .u8 ((s.size : Int) / 256 % 256))) (b3 : w.cell? ⟨g, p + 3, none⟩ = some (.int .u8 ((s.size : Int) % 256)))
    (hc : ∀ j (h : j < s.size), w.cell? ⟨g, p + 4 + j, none⟩ = some (.int .u8 (s[j].toNat : Int))) :
    Calls Try.prog 21 #[.slice (some ⟨g, 0, none⟩) N cap, .int .i64 p, .string s] w fun e w' => e = .returned (.tuple #[.bool true, .int .i64 ((p + 4 + s.size : Nat) : Int)]) ∧ ∃ q, w' = w.drewN q := by
  have hp0 : ¬ (p : Int) < 0 := by omega
  have hp1 : ¬ ((N : Int) - (p : Int) < 4) := by omega
  have hrd := rdW_be (s.size : Int) (by omega) (by omega)
  have HR : Hid (rdW ((s.size : Int) / 16777216 % 256) ((s.size : Int) / 65536 % 256) ((s.size : Int) / 256 % 256) ((s.size : Int) % 256) = (s.size : Int)) := hrd
  clear hrd
  go_enter Try.func21, Try.ntmps21
  go_wp2_with fail
  refine (rd32 g cap N p _ _ _ _ w (by omega) (by omega) b0 b1 b2 b3).mono ?_
  rw [HR.out]
  rintro e w' ⟨rfl, q, rfl⟩
  clear HR b0 b1 b2 b3
  have hp2 : ¬ ((N : Int) - ((p : Int) + 4) < (s.size : Int)) := by omega
  go_wp2
  go_loopw [8] (fun i wr => ∃ (k q2 : Nat), k ≤ s.size ∧ i = .int .i64 k ∧ wr = w.drewN q2) (fun i _ => s.size - (intOf i).toNat)
  case atStart => exact ⟨0, q, Nat.zero_le _, rfl, rfl⟩
  case round =>
    obtain ⟨k, q2, hk, rfl, rfl⟩ := hrel
    by_cases hlt : k < s.size
    · have d1 := hc k hlt
      have hkz : (k : Int) < (s.size : Int) := by omega
      have hkN : (p : Int) + 4 + (k : Int) < (N : Int) := by omega
      clear hc
      go_wp2
      go_quiet (fail)
      go_wp2
      go_roundw
      case rel => exact ⟨k + 1, _, by omega, by go_num, rfl⟩
      case measure => simp [intOf]; omega
    · clear hc
      go_wp2
      go_ret2
      exact ⟨uint_tup (by omega), _, rfl⟩
end Go.Proofs.Qxb6605892a
