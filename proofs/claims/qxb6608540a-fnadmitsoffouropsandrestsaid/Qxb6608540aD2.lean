/- The contracts of zzPairs, zzLookup, zzFigureMap. -/
import Derived.Test.Qxb6608540aC5
import Derived.Test.Qxb6608540aD1
namespace Go.Proofs.Qxb6608540a
open Go.RowKit Go.Maps

/-- The slice at a of len strings ss can be read, within the form's reach. -/
def Ks (w : World) (a : Option Addr) (len : Nat) (ss : List ByteArray) : Prop :=
  len * 16 ≤ 140737488351232 ∧ (len = 0 ∨ ∃ (b off : Nat), a = some ⟨b, off, none⟩ ∧ Strs w b off len ss)

theorem Ks.sl {w : World} {a : Option Addr} {len : Nat} {ss : List ByteArray} (h : Ks w a len ss) : Sl w a len := by
  obtain ⟨hr, h | ⟨b, off, e, hs⟩⟩ := h
  · exact ⟨hr, .inl h⟩
  · exact ⟨hr, .inr ⟨b, off, ss, e, hs⟩⟩

/-- len numbers lie from offset off of block b on. -/
def Ints (w : World) (b off len : Nat) (zs : List Int) : Prop :=
  b < w.heap.size ∧ (∀ j, j < len → w.cell? ⟨b, off + j, none⟩ = some (.int .i64 (zs.getD j 0)))

/-- The slice at a of len numbers zs can be read, within the form's reach. -/
def Vs (w : World) (a : Option Addr) (len : Nat) (zs : List Int) : Prop :=
  len * 8 ≤ 140737488351232 ∧ (∀ z ∈ zs, (Lit.int .i64 z).wf = true) ∧ (len = 0 ∨ ∃ (b off : Nat), a = some ⟨b, off, none⟩ ∧ Ints w b off len zs)

theorem Ks.below {w w' : World} {a : Option Addr} {len : Nat} {ss : List ByteArray} (h : Ks w a len ss) (hb : Below w.heap.size w w') : Ks w' a len ss := by
  obtain ⟨hr, h | ⟨b, off, e, h1, h2, h3⟩⟩ := h
  · exact ⟨hr, .inl h⟩
  · exact ⟨hr, .inr ⟨b, off, e, Nat.lt_of_lt_of_le h1 hb.size, fun j hj => (hb.cell (by exact h1)).trans (h2 j hj), h3⟩⟩

theorem Vs.below {w w' : World} {a : Option Addr} {len : Nat} {zs : List Int} (h : Vs w a len zs) (hb : Below w.heap.size w w') : Vs w' a len zs := by
  obtain ⟨hr, hw, h | ⟨b, off, e, h1, h2⟩⟩ := h
  · exact ⟨hr, hw, .inl h⟩
  · exact ⟨hr, hw, .inr ⟨b, off, e, Nat.lt_of_lt_of_le h1 hb.size, fun j hj => (hb.cell (by exact h1)).trans (h2 j hj)⟩⟩

/-- What a map filled with the first k pairs holds at f. -/
def lookTo (ss : List ByteArray) (zs : List Int) (f : ByteArray) : Nat → Int
  | 0 => 0
  | k + 1 => if (ss.getD k ByteArray.empty).toList == f.toList then zs.getD k 0 else lookTo ss zs f k

theorem getD_wf {zs : List Int} (h : ∀ z ∈ zs, (Lit.int .i64 z).wf = true) (k : Nat) : (Lit.int .i64 (zs.getD k 0)).wf = true := by
  rw [List.getD_eq_getElem?_getD]
  by_cases hk : k < zs.length
  · rw [List.getElem?_eq_getElem hk]; exact h _ (List.getElem_mem hk)
  · rw [List.getElem?_eq_none (by omega)]; decide

theorem lookTo_wf {ss : List ByteArray} {zs : List Int} (h : ∀ z ∈ zs, (Lit.int .i64 z).wf = true) (f : ByteArray) (k : Nat) : (Lit.int .i64 (lookTo ss zs f k)).wf = true := by
  induction k with
  | zero => show (Lit.int .i64 0).wf = true; decide
  | succ k ih =>
    unfold lookTo
    split
    · exact getD_wf h k
    · exact ih

theorem pairs_any (a1 a2 : Option Addr) (l1 c1 l2 c2 n : Nat) (hn : n = min l1 l2) (w : World) :
    Calls Try.prog 30 #[.slice a1 l1 c1, .slice a2 l2 c2] w fun e w' => e = .returned (.int .i64 n) ∧ w' = w := by
  by_cases h : (l2 : Int) < (l1 : Int)
  · obtain rfl : n = l2 := by omega
    clear hn
    go_enter Try.func30, Try.ntmps30
    go_wp2
    go_ret
    exact ⟨rfl, rfl⟩
  · obtain rfl : n = l1 := by omega
    clear hn
    go_enter Try.func30, Try.ntmps30
    go_wp2
    go_ret
    exact ⟨rfl, rfl⟩

set_option maxRecDepth 100000 in
theorem lookup_none (a1 a2 : Option Addr) (l1 c1 l2 c2 : Nat) (hn : 0 = min l1 l2) (f : ByteArray) (w : World) :
    Calls Try.prog 21 #[.slice a1 l1 c1, .slice a2 l2 c2, .string f] w fun e w' => e = .returned (.int .i64 0) ∧ w' = w := by
  go_enter Try.func21, Try.ntmps21
  go_wp2_with fail
  refine (pairs_any a1 a2 l1 c1 l2 c2 0 hn _).mono ?_
  rintro e w' ⟨rfl, hw⟩
  obtain rfl := hw.symm
  clear hn
  go_wp2_with fail
  refine wp_loop_rounds 1 ?_
  rw [rounds_succ]
  go_wp2
  go_ret
  exact ⟨rfl, rfl⟩

set_option maxRecDepth 100000 in
theorem lookup_some (b1 o1 l1 c1 b2 o2 l2 c2 n : Nat) (hn : n = min l1 l2) (ss : List ByteArray) (zs : List Int) (f : ByteArray) (w : World) (h1 : Strs w b1 o1 l1 ss) (h2 : Ints w b2 o2 l2 zs) (hr : l1 * 16 ≤ 140737488351232) :
    Calls Try.prog 21 #[.slice (some ⟨b1, o1, none⟩) l1 c1, .slice (some ⟨b2, o2, none⟩) l2 c2, .string f] w fun e w' => e = .returned (.int .i64 (lookTo ss zs f n)) ∧ w' = w := by
  have hn1 : n ≤ l1 := by omega
  have hn2 : n ≤ l2 := by omega
  obtain ⟨hb1, hc1, _⟩ := h1
  obtain ⟨hb2, hc2⟩ := h2
  go_enter Try.func21, Try.ntmps21
  go_wp2_with fail
  refine (pairs_any _ _ l1 c1 l2 c2 n hn _).mono ?_
  rintro e w' ⟨rfl, hw⟩
  obtain rfl := hw.symm
  clear hn
  go_wp2_with fail
  go_loop [8, 9] (fun v i => ∃ k : Nat, k ≤ n ∧ i = .int .i64 k ∧ v = .int .i64 (lookTo ss zs f k)) (fun _ i => n - (intOf i).toNat)
  case atStart => exact ⟨0, Nat.zero_le _, rfl, rfl⟩
  case round =>
    obtain ⟨k, hk, rfl, rfl⟩ := hrel
    by_cases hlt : k < n
    · have d1 := hc1 k (by omega)
      have d2 := hc2 k (by omega)
      have HL : Hid (lookTo ss zs f (k + 1) = if (ss.getD k ByteArray.empty).toList == f.toList then zs.getD k 0 else lookTo ss zs f k) := rfl
      generalize ss.getD k ByteArray.empty = s at *
      generalize zs.getD k 0 = z at *
      have hl1 : k < l1 := by omega
      have hl2 : k < l2 := by omega
      clear hc1 hc2
      cases he : (s.toList == f.toList)
      · go_wp2
        go_round
        case rel => exact ⟨k + 1, by omega, by go_num, by rw [HL.out, he]; rfl⟩
        case measure => simp [intOf]; omega
      · go_wp2
        go_round
        case rel => exact ⟨k + 1, by omega, by go_num, by rw [HL.out, he]; rfl⟩
        case measure => simp [intOf]; omega
    · obtain rfl : k = n := by omega
      clear hc1 hc2
      go_wp2
      go_ret
      exact ⟨rfl, rfl⟩

theorem lookup_any {w : World} {a1 a2 : Option Addr} {l1 l2 : Nat} {ss : List ByteArray} {zs : List Int} (h1 : Ks w a1 l1 ss) (h2 : Vs w a2 l2 zs) (c1 c2 : Nat) (f : ByteArray) :
    Calls Try.prog 21 #[.slice a1 l1 c1, .slice a2 l2 c2, .string f] w fun e w' => e = .returned (.int .i64 (lookTo ss zs f (min l1 l2))) ∧ w' = w := by
  obtain ⟨hr, rfl | ⟨b1, o1, rfl, h1⟩⟩ := h1
  · rw [Nat.zero_min]
    exact lookup_none a1 a2 0 c1 l2 c2 (by omega) f w
  obtain ⟨_, _, rfl | ⟨b2, o2, rfl, h2⟩⟩ := h2
  · rw [Nat.min_zero]
    exact lookup_none _ a2 l1 c1 0 c2 (by omega) f w
  · exact lookup_some b1 o1 l1 c1 b2 o2 l2 c2 _ rfl ss zs f w h1 h2 hr
end Go.Proofs.Qxb6608540a
