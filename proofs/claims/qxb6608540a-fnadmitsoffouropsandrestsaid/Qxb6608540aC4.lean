/- The contract of zzFigures: a new slice is filled. -/
import Derived.Test.Qxb6608540aC3
import Derived.Deep.OwnRows
import Derived.Lib.SliceRun
namespace Go.Proofs.Qxb6608540a
open Go.RowKit Go.Maps

theorem info31 : (Try.prog.info? 31).map (fun i => (i.zero, i.size, i.bytes)) = some (some (.string ByteArray.empty), 1, 16) := by kernel_rfl

/-- It returned a slice. -/
def AnySlice (e : Ending) : Prop := ∃ (a : Option Addr) (n c : Nat), e = .returned (.slice a n c)

theorem figures_nil (n c : Nat) (w : World) :
    Calls Try.prog 14 #[.slice none n c] w fun e w' => AnySlice e ∧ Below w.heap.size w w' := by
  have hq := fun (wx : World) => Lib.run_eql_slice_nil (P := Try.prog) wx 26 9 none n c 0 0 Try.underlying26
  simp only [Option.isNone_none] at hq
  go_enter Try.func14, Try.ntmps14
  go_wp2
  go_ret
  exact ⟨⟨_, _, _, rfl⟩, Below.refl _ _⟩

set_option maxRecDepth 100000 in
theorem figures_none (ad : Addr) (c : Nat) (w : World) :
    Calls Try.prog 14 #[.slice (some ad) 0 c] w fun e w' => AnySlice e ∧ Below w.heap.size w w' := by
  have hq := fun (wx : World) => Lib.run_eql_slice_nil (P := Try.prog) wx 26 9 (some ad) 0 c 0 0 Try.underlying26
  simp only [Option.isNone_some] at hq
  have hmk := run_make_row' (P := Try.prog) 29 31 (.string ByteArray.empty) 16 Try.underlying29 info31 rfl .i64 .i64 0 (by omega) (by omega)
  simp only [Int.natCast_zero] at hmk
  go_enter Try.func14, Try.ntmps14
  go_wp2
  refine wp_loop_rounds 1 ?_
  rw [rounds_succ]
  go_wp2
  go_ret
  exact ⟨⟨_, _, _, rfl⟩, (Below.refl _ _).alloc (Nat.le_refl _) _⟩

set_option maxRecDepth 100000 in
theorem figures_any (b off len cap : Nat) (ss : List ByteArray) (w : World) (hs : Strs w b off len ss) (hreach : len * 16 ≤ 140737488351232) :
    Calls Try.prog 14 #[.slice (some ⟨b, off, none⟩) len cap] w fun e w' => AnySlice e ∧ Below w.heap.size w w' := by
  obtain ⟨hb, hc, hsz⟩ := hs
  have hq := fun (wx : World) => Lib.run_eql_slice_nil (P := Try.prog) wx 26 9 (some ⟨b, off, none⟩) len cap 0 0 Try.underlying26
  simp only [Option.isNone_some] at hq
  have hmk := run_make_row' (P := Try.prog) 29 31 (.string ByteArray.empty) 16 Try.underlying29 info31 rfl .i64 .i64 len (by omega) (by omega)
  go_enter Try.func14, Try.ntmps14
  go_wp2
  clear hq hmk
  go_loopw [4] (fun i wr => ∃ (k : Nat) (g : Nat → Value), k ≤ len ∧ i = .int .i64 k ∧ wr.rowIs w.heap.size 31 len g ∧ Below w.heap.size w wr) (fun i _ => len - (intOf i).toNat)
  case atStart => exact ⟨0, _, Nat.zero_le _, rfl, World.rowIs_made _ _ _ _, (Below.refl _ _).alloc (Nat.le_refl _) _⟩
  case round =>
    obtain ⟨k, g, hk, rfl, hrow, hnx⟩ := hrel
    by_cases hlt : k < len
    · obtain ⟨s, hs⟩ : ∃ s, s = ss.getD k ByteArray.empty := ⟨_, rfl⟩
      have hcx : wr.cell? ⟨b, off + k, none⟩ = some (.string s) := by rw [hs]; exact (hnx.cell (by exact hb)).trans (hc k hlt)
      have hd := hrow.cell hlt
      have hfr := hrow.frozen k
      have R1 := hrow.set k (.string s)
      have R2 := hnx.setCell (p := ⟨w.heap.size, k, none⟩) (Nat.le_refl _) (.string s)
      clear hs hc hrow
      go_wp2
      go_roundw
      case rel => exact ⟨k + 1, _, by omega, by go_num, R1, R2⟩
      case measure => simp [intOf]; omega
    · clear hc
      go_wp2
      go_ret
      exact ⟨⟨_, _, _, rfl⟩, hnx⟩
end Go.Proofs.Qxb6608540a
