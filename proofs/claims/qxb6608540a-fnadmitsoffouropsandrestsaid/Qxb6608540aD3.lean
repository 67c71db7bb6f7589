/- The contract of zzFigureMap: a map is filled pair by pair. -/
import Derived.Test.Qxb6608540aD2
namespace Go.Proofs.Qxb6608540a
open Go.RowKit Go.Maps

theorem run_makeMap_hint (n : Nat) (w : World) : (Instr.makeMap 33 (some (.int .i64 (n : Int)))).run Try.prog w = .ok (.map (some w.heap.size)) (w.alloc (.map #[] 0)) := by
  simp [Instr.makeMap, run_underlying Try.underlying33, asInt, newObj]
  rfl

set_option maxRecDepth 100000 in
theorem figureMap_none (a1 a2 : Option Addr) (l1 c1 l2 c2 : Nat) (hn : 0 = min l1 l2) (f : ByteArray) (w : World) :
    Calls Try.prog 19 #[.slice a1 l1 c1, .slice a2 l2 c2] w fun e w' => e = .returned (.map (some w.heap.size)) ∧ Holds w' w.heap.size f 0 ∧ Below w.heap.size w w' := by
  have hmm := run_makeMap_hint 0
  simp only [Int.natCast_zero] at hmm
  go_enter Try.func19, Try.ntmps19
  go_wp2_with fail
  refine (pairs_any a1 a2 l1 c1 l2 c2 0 hn _).mono ?_
  rintro e w' ⟨rfl, hw⟩
  obtain rfl := hw.symm
  clear hn
  go_wp2_with fail
  refine wp_loop_rounds 1 ?_
  rw [rounds_succ]
  go_wp2
  go_ret
  exact ⟨rfl, ⟨0, _, World.ownsMap_made _ _ _ _, rfl⟩, (Below.refl _ _).alloc (Nat.le_refl _) _⟩

theorem toList_data (s : ByteArray) : s.data.toList = s.toList := (ByteArray.toList_eq s).symm

set_option maxHeartbeats 1000000 in
set_option maxRecDepth 100000 in
theorem figureMap_some (b1 o1 l1 c1 b2 o2 l2 c2 n : Nat) (hn : n = min l1 l2) (ss : List ByteArray) (zs : List Int) (f : ByteArray) (w : World) (h1 : Strs w b1 o1 l1 ss) (h2 : Ints w b2 o2 l2 zs) (hr : l1 * 16 ≤ 140737488351232) (hwz : ∀ z ∈ zs, (Lit.int .i64 z).wf = true) :
    Calls Try.prog 19 #[.slice (some ⟨b1, o1, none⟩) l1 c1, .slice (some ⟨b2, o2, none⟩) l2 c2] w fun e w' => e = .returned (.map (some w.heap.size)) ∧ Holds w' w.heap.size f (lookTo ss zs f n) ∧ Below w.heap.size w w' := by
  have hn1 : n ≤ l1 := by omega
  have hn2 : n ≤ l2 := by omega
  obtain ⟨hb1, hc1, hsz⟩ := h1
  obtain ⟨hb2, hc2⟩ := h2
  have hmm := run_makeMap_hint n
  go_enter Try.func19, Try.ntmps19
  go_wp2_with fail
  refine (pairs_any _ _ l1 c1 l2 c2 n hn _).mono ?_
  rintro e w' ⟨rfl, hw⟩
  obtain rfl := hw.symm
  clear hn
  go_wp2_with fail
  clear hmm
  go_loopw [7] (fun i wr => ∃ (k : Nat) (D : DataW Unit), k ≤ n ∧ i = .int .i64 k ∧ wr.ownsMap Try.prog 31 (plainElem Try.prog 32) w.heap.size k D ∧ D.atKey (.string f.data.toList) (.lit (.int .i64 0)) = .lit (.int .i64 (lookTo ss zs f k)) ∧ Below w.heap.size w wr)
    (fun i _ => n - (intOf i).toNat)
  case atStart => exact ⟨0, _, Nat.zero_le _, rfl, World.ownsMap_made _ _ _ _, rfl, (Below.refl _ _).alloc (Nat.le_refl _) _⟩
  case round =>
    obtain ⟨k, D, hk, rfl, hown, hat, hnx⟩ := hrel
    by_cases hlt : k < n
    · have d1 : wr.cell? ⟨b1, o1 + k, none⟩ = _ := (hnx.cell (by exact hb1)).trans (hc1 k (by omega))
      have d2 : wr.cell? ⟨b2, o2 + k, none⟩ = _ := (hnx.cell (by exact hb2)).trans (hc2 k (by omega))
      have HL : Hid (lookTo ss zs f (k + 1) = if (ss.getD k ByteArray.empty).toList == f.toList then zs.getD k 0 else lookTo ss zs f k) := rfl
      have hs := getD_le hsz k
      have hz := getD_wf hwz k
      have Hat : Hid (D.atKey (.string f.data.toList) (.lit (.int .i64 0)) = .lit (.int .i64 (lookTo ss zs f k))) := hat
      generalize ss.getD k ByteArray.empty = s at *
      generalize zs.getD k 0 = z at *
      have hl1 : (k : Int) < (l1 : Int) := by omega
      have hl2 : (k : Int) < (l2 : Int) := by omega
      have hk0 : (0 : Int) ≤ (k : Int) := by omega
      obtain ⟨w2, hrun, hown2, hg2⟩ := hown.drew.update law31 Try.underlying33 (by unfold maxLen; omega) (WideMaps.keyOf_string_mk Try.underlying31 hs) (plainElem_int Try.underlying32 hz)
      have R1 := (hnx.drew).grown hg2 hnx.size (fun j hj => by cases hj; exact Nat.le_refl _)
      have f1 : w2.cell? ⟨b1, o1 + k, none⟩ = some (.string s) := (R1.cell (by exact hb1)).trans ((hnx.cell (by exact hb1)).symm.trans d1)
      have f2 : w2.cell? ⟨b2, o2 + k, none⟩ = some (.int .i64 z) := (R1.cell (by exact hb2)).trans ((hnx.cell (by exact hb2)).symm.trans d2)
      have hD : IsMap D := hown.isMap
      clear hc1 hc2 hat
      go_wp2
      go_region_held3 (fun w' => w'.cell? ⟨b1, o1 + k, none⟩ = some (.string s) ∧ w'.cell? ⟨b2, o2 + k, none⟩ = some (.int .i64 z)) (go_keep) (fail)
      clear hrun f1 f2 d1 d2
      go_wp2
      go_roundw
      case rel =>
        refine ⟨k + 1, _, by omega, by go_num, hown2, ?_, R1⟩
        rw [HL.out]
        by_cases he : s = f
        · subst he
          rw [atKey_put_same (k := .string s.data.toList) hD trivial]
          simp
        · have hl : f.toList ≠ s.toList := by
            intro h
            apply he
            rw [← toList_data, ← toList_data] at h
            obtain ⟨⟨sl⟩⟩ := s
            obtain ⟨⟨fl⟩⟩ := f
            simpa using h.symm
          have hne : (s.toList == f.toList) = false := beq_eq_false_iff_ne.2 fun h => hl h.symm
          have hk2 : Lit.string f.data.toList ≠ Lit.string s.data.toList := by
            intro h
            injection h with h
            rw [toList_data, toList_data] at h
            exact hl h
          rw [hne, atKey_put_other hk2, Hat.out]
          simp
      case measure => simp [intOf]; omega
    · obtain rfl : k = n := by omega
      clear hc1 hc2
      go_wp2
      go_ret
      exact ⟨rfl, ⟨_, _, hown, hat⟩, hnx⟩

theorem figureMap_any {w : World} {a1 a2 : Option Addr} {l1 l2 : Nat} {ss : List ByteArray} {zs : List Int} (h1 : Ks w a1 l1 ss) (h2 : Vs w a2 l2 zs) (c1 c2 : Nat) (f : ByteArray) :
    Calls Try.prog 19 #[.slice a1 l1 c1, .slice a2 l2 c2] w fun e w' => e = .returned (.map (some w.heap.size)) ∧ Holds w' w.heap.size f (lookTo ss zs f (min l1 l2)) ∧ Below w.heap.size w w' := by
  obtain ⟨hr, rfl | ⟨b1, o1, rfl, h1⟩⟩ := h1
  · rw [Nat.zero_min]
    exact figureMap_none a1 a2 0 c1 l2 c2 (by omega) f w
  obtain ⟨_, hwz, rfl | ⟨b2, o2, rfl, h2⟩⟩ := h2
  · rw [Nat.min_zero]
    exact figureMap_none _ a2 l1 c1 0 c2 (by omega) f w
  · exact figureMap_some b1 o1 l1 c1 b2 o2 l2 c2 _ rfl ss zs f w h1 h2 hr hwz
end Go.Proofs.Qxb6608540a
