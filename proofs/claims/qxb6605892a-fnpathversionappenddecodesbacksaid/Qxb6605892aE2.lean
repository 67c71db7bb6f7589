/- The contracts of Append, zzClone and the length bound. -/
import Derived.Test.Qxb6605892aE1
import Derived.Deep.OwnRows
import Derived.Lib.SliceRun
namespace Go.Proofs.Qxb6605892a
open Go.RowKit

/-- It returned, true or false. -/
def AnyBool (e : Ending) : Prop := ∃ q : Bool, e = .returned (.bool q)

theorem bytes_any (s : ByteArray) (hs : s.size ≤ maxLen) (x : Int) (a : Option Addr) (n c : Nat) (hn : n ≤ 140737488351232) (w : World) :
    Calls Try.prog 28 #[.string s, .int .i32 x, .slice a n c] w fun e w' => AnyBool e ∧ w' = w := by
  unfold maxLen at hs
  by_cases h1 : 1048576 < (s.size : Int)
  · go_enter Try.func28, Try.ntmps28
    go_wp2
    go_ret
    exact ⟨⟨_, rfl⟩, rfl⟩
  by_cases h2 : 1048576 < (n : Int)
  · go_enter Try.func28, Try.ntmps28
    go_wp2
    go_ret
    exact ⟨⟨_, rfl⟩, rfl⟩
  by_cases h3 : 1048576 < (s.size : Int) + (n : Int)
  · go_enter Try.func28, Try.ntmps28
    go_wp2
    go_ret
    exact ⟨⟨_, rfl⟩, rfl⟩
  go_enter Try.func28, Try.ntmps28
  go_wp2
  go_ret
  exact ⟨⟨_, rfl⟩, rfl⟩

theorem append_any (base n R : Nat) (v : Value) (xs : List Value) (s : ByteArray) (hs : s.size ≤ 1048576) (x : Int) (w : World) (hown : w.ownsRow base 5 1 v n xs) (hn : n ≤ 1048576) (hbase : base ≤ w.heap.size)
    (hR : R < w.heap.size) (hne : some R ≠ v.ownBlock) (c0 : w.cell? ⟨R, 0, none⟩ = some (.string s)) (c1 : w.cell? ⟨R, 1, none⟩ = some (.int .i32 x)) :
    Calls Try.prog 29 #[.pointer (some ⟨R, 0, none⟩), v] w fun e w' => Appended w base v n xs ((cellsOf (be32 s.size) ++ Lib.strCells s) ++ cellsOf (be32 (x % 4294967296))) e w' := by
  go_enter Try.func29, Try.ntmps29
  go_wp2_with fail
  refine (appendString base n v xs s hs w hown (by omega) hbase).mono ?_
  rintro e w1 ⟨v1, rfl, o1, g1, l1⟩
  have d1 : w1.cell? ⟨R, 1, none⟩ = some (.int .i32 x) := (g1.cell_far ⟨R, 1, none⟩ hR hne).trans c1
  clear c0 c1 hown
  go_wp2_with fail
  refine (appendInt32 base _ v1 _ x w1 o1 (by rw [List.length_append, Lib.strCells_length]; simp [cellsOf, be32]; omega) (Nat.le_trans hbase g1.size)).mono ?_
  rintro e w2 h2
  have R2 := Appended.mk2 g1 l1 h2
  obtain ⟨v2, rfl, _⟩ := h2
  clear o1 g1 l1 d1
  go_wp2
  go_ret
  exact R2

/-- The slice at a reads as the bytes zs. -/
def Bs (w : World) (a : Option Addr) (zs : List Int) : Prop :=
  zs = [] ∨ ∃ b off, a = some ⟨b, off, none⟩ ∧ b < w.heap.size ∧ ∀ j, j < zs.length → w.cell? ⟨b, off + j, none⟩ = some (.int .u8 (zs.getD j 0))

/-- A copy of zs: nil (of nothing), or a new row. -/
def Cloned (w : World) (zs : List Int) (e : Ending) (w' : World) : Prop :=
  Below w.heap.size w w' ∧ ((zs = [] ∧ e = .returned (.slice none 0 0) ∧ w' = w) ∨
    (e = .returned (.slice (some ⟨w.heap.size, 0, none⟩) zs.length zs.length) ∧ w'.heap.size = w.heap.size + 1 ∧ w'.rowIs w.heap.size 5 zs.length (fun j => .int .u8 (zs.getD j 0))))

theorem clone_nil (c : Nat) (w : World) : Calls Try.prog 11 #[.slice none 0 c] w fun e w' => Cloned w [] e w' := by
  have hq := fun (wx : World) => Lib.run_eql_slice_nil (P := Try.prog) wx 22 5 none 0 c 0 0 Try.underlying22
  simp only [Option.isNone_none] at hq
  go_enter Try.func11, Try.ntmps11
  go_wp2
  go_ret
  exact ⟨Below.refl _ _, .inl ⟨rfl, rfl, rfl⟩⟩

set_option maxRecDepth 100000 in
theorem clone_none (ad : Addr) (c : Nat) (w : World) : Calls Try.prog 11 #[.slice (some ad) 0 c] w fun e w' => Cloned w [] e w' := by
  have hq := fun (wx : World) => Lib.run_eql_slice_nil (P := Try.prog) wx 22 5 (some ad) 0 c 0 0 Try.underlying22
  simp only [Option.isNone_some] at hq
  have hmk := run_make_row' (P := Try.prog) 22 5 (.int .u8 0) 1 Try.underlying22 info5 rfl .i64 .i64 0 (by omega) (by omega)
  simp only [Int.natCast_zero] at hmk
  go_enter Try.func11, Try.ntmps11
  go_wp2
  refine wp_loop_rounds 1 ?_
  rw [rounds_succ]
  go_wp2
  go_ret
  exact ⟨(Below.refl _ _).alloc (Nat.le_refl _) _, .inr ⟨rfl, by simp, (World.rowIs_made _ _ _ _).congr (fun i hi => by simp at hi)⟩⟩

set_option maxRecDepth 100000 in
theorem clone_some (b off cap : Nat) (zs : List Int) (hz : zs.length ≤ 140737488351232) (w : World) (hb : b < w.heap.size) (hc : ∀ j, j < zs.length → w.cell? ⟨b, off + j, none⟩ = some (.int .u8 (zs.getD j 0))) :
    Calls Try.prog 11 #[.slice (some ⟨b, off, none⟩) zs.length cap] w fun e w' => Cloned w zs e w' := by
  have hq := fun (wx : World) => Lib.run_eql_slice_nil (P := Try.prog) wx 22 5 (some ⟨b, off, none⟩) zs.length cap 0 0 Try.underlying22
  simp only [Option.isNone_some] at hq
  have hmk := run_make_row' (P := Try.prog) 22 5 (.int .u8 0) 1 Try.underlying22 info5 rfl .i64 .i64 zs.length (by omega) (by omega)
  obtain ⟨n, hn⟩ : ∃ n, n = zs.length := ⟨_, rfl⟩
  have HN : Hid (n = zs.length) := hn
  rw [← hn] at hq hmk hc hz ⊢
  clear hn
  go_enter Try.func11, Try.ntmps11
  go_wp2
  clear hq hmk
  go_loopw [4] (fun i wr => ∃ (k : Nat), k ≤ n ∧ i = .int .i64 k ∧ wr.heap.size = w.heap.size + 1 ∧ wr.rowIs w.heap.size 5 n (fun j => if j < k then .int .u8 (zs.getD j 0) else .int .u8 0) ∧ Below w.heap.size w wr) (fun i _ => n - (intOf i).toNat)
  case atStart => exact ⟨0, Nat.zero_le _, rfl, by simp, (World.rowIs_made _ _ _ _).congr (fun i hi => by simp), (Below.refl _ _).alloc (Nat.le_refl _) _⟩
  case round =>
    obtain ⟨k, hk, rfl, hsz, hrow, hnx⟩ := hrel
    by_cases hlt : k < n
    · have hcx : wr.cell? ⟨b, off + k, none⟩ = some (.int .u8 (zs.getD k 0)) := (hnx.cell (by exact hb)).trans (hc k hlt)
      have hd := hrow.cell hlt
      rw [if_neg (Nat.lt_irrefl k)] at hd
      have hfr := hrow.frozen k
      have R1 := (hrow.set k (.int .u8 (zs.getD k 0))).congr (g := fun j => if j < k + 1 then .int .u8 (zs.getD j 0) else .int .u8 0) (fun j hj => by
        by_cases e : j = k
        · subst e; simp
        · by_cases e2 : j < k
          · simp [e, e2, Nat.lt_succ_of_lt e2]
          · have e3 : ¬ j < k + 1 := by omega
            simp [e, e2, e3])
      have R2 := hnx.setCell (p := ⟨w.heap.size, k, none⟩) (Nat.le_refl _) (.int .u8 (zs.getD k 0))
      clear hc hrow
      generalize zs.getD k 0 = z at *
      go_wp2
      go_roundw
      case rel => exact ⟨k + 1, by omega, by go_num, by simpa using hsz, R1, R2⟩
      case measure => simp [intOf]; omega
    · obtain rfl : k = n := by omega
      clear hc
      go_wp2
      go_ret
      refine ⟨hnx, .inr ⟨?_, hsz, ?_⟩⟩
      · rw [← HN.out]; rfl
      · rw [← HN.out]; exact hrow.congr (fun j hj => by rw [if_pos hj])

theorem clone_any {w : World} {a : Option Addr} {zs : List Int} (h : Bs w a zs) (hz : zs.length ≤ 140737488351232) (cap : Nat) : Calls Try.prog 11 #[.slice a zs.length cap] w fun e w' => Cloned w zs e w' := by
  rcases h with rfl | ⟨b, off, rfl, hb, hc⟩
  · cases a with
    | none => exact clone_nil cap w
    | some ad => exact clone_none ad cap w
  · exact clone_some b off cap zs hz w hb hc
end Go.Proofs.Qxb6605892a
