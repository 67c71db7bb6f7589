/- The walk of FnPathVersionAppendDecodesBack. -/
import Derived.Test.Qxb6605892aE4
import Derived.WalkSmall
namespace Go.Proofs.Qxb6605892a
open Go.RowKit

theorem ver_back (x : Int) (_h0 : -2147483648 ≤ x) (_h1 : x ≤ 2147483647) : (wrap32 (x % 4294967296) != x) = false := by
  rw [bne_eq_false_iff_eq]
  unfold wrap32
  omega

theorem rd32_at (g cap N i : Nat) (ii : Int) (hii : ii = (i : Int)) (a b c d : Int) (w : World) (h : (i : Int) + 4 ≤ (N : Int)) (hN : (N : Int) ≤ 100000000)
  (h0 : w.cell? ⟨g, i, none⟩ = some (.int .u8 a)) (h1 : w.cell? ⟨g, i + 1, none⟩ = some (.int .u8 b)) (h2 : w.cell? ⟨g, i + 2, none⟩ = some (.int .u8 c)) (h3 : w.cell? ⟨g, i + 3, none⟩ = some (.int .u8 d)) :
    Calls Try.prog 15 #[.slice (some ⟨g, 0, none⟩) N cap, .int .i64 ii] w fun e w' => e = .returned (.int .u32 (rdW a b c d)) ∧ ∃ q, w' = w.drewN q := by
  subst hii
  exact rd32 g cap N i a b c d w h hN h0 h1 h2 h3

set_option maxHeartbeats 2000000 in
set_option maxRecDepth 100000 in
theorem decodes (path : ByteArray) (ver : Int) (a : Option Addr) (zs : List Int) (n cap : Nat) (hn : n = zs.length) (w : World) (hs : path.size ≤ maxLen) (hv : -2147483648 ≤ ver ∧ ver ≤ 2147483647) (hb : Bs w a zs) (hz : n ≤ 140737488351232) :
    Calls Try.prog 8 #[.string path, .int .i32 ver, .slice a n cap] w fun e w' => e = .returned (.bool true) ∧ Below w.heap.size w w' := by
  have HN : Hid (n = zs.length) := hn
  clear hn
  go_enter Try.func8, Try.ntmps8
  go_wp2_with fail
  refine (bytes_any path hs ver a n cap hz w).mono ?_
  rintro e w' ⟨⟨q, rfl⟩, hw⟩
  obtain rfl := hw.symm
  unfold maxLen at hs
  cases q
  · go_wp2
    go_ret
    exact ⟨rfl, Below.refl _ _⟩
  by_cases h1 : 1048576 < (path.size : Int)
  · go_wp2
    go_ret
    exact ⟨rfl, Below.refl _ _⟩
  by_cases h2 : 1048576 < (n : Int)
  · go_wp2
    go_ret
    exact ⟨rfl, Below.refl _ _⟩
  by_cases h3 : 1048576 < (path.size : Int) + (n : Int)
  · go_wp2
    go_ret
    exact ⟨rfl, Below.refl _ _⟩
  go_wp2_with fail
  refine (clone_out n HN.out hb (by omega) cap).mono ?_
  rintro e w1 ⟨a1, c1, rfl, o1, k1, b1⟩
  have hb1 : Bs w1 a1 zs := by
    rcases k1 with k1 | ⟨O, rfl, _, hO, hc⟩
    · left
      exact List.eq_nil_of_length_eq_zero (HN.out.symm.trans k1)
    · right
      exact ⟨O, 0, rfl, hO, fun j hj => by rw [Nat.zero_add]; exact hc j (by rw [HN.out]; exact hj)⟩
  clear k1 hb
  go_wp2_with fail
  refine (clone_out n HN.out hb1 (by omega) c1).mono ?_
  rintro e w2 ⟨a2, c2, rfl, o2, k2, b2⟩
  clear o2
  have p2 := own_below o1 b2
  have m2 : Hid (∀ k, (Value.slice a1 n c1).ownBlock = some k → w.heap.size ≤ k ∧ k < w1.heap.size) := own_bounds o1
  have K2 : Hid (n = 0 ∨ ∃ O, a2 = some ⟨O, 0, none⟩ ∧ w1.heap.size ≤ O ∧ O < w2.heap.size ∧ ∀ j, j < n → w2.cell? ⟨O, j, none⟩ = some (.int .u8 (zs.getD j 0))) := k2
  clear k2
  have bw2 : Below w.heap.size w w2 := b1.trans (b2.mono b1.size)
  clear o1 hb1
  go_wp2_with fail
  have hne : some w2.heap.size ≠ (Value.slice a1 n c1).ownBlock := fun h => by
    have := m2.out _ h.symm
    have := b2.size
    omega
  refine (append_any w.heap.size n w2.heap.size _ _ path (by omega) ver _ (p2.alloc _) (by omega) (by simp; have := bw2.size; omega) (by simp) hne (by simp) (by simp)).mono ?_
  rintro e w4 ⟨v4, rfl, o4, g4, _⟩
  have eN : n + (news path (ver % 4294967296)).length = n + 8 + path.size := by rw [news_length]; omega
  have o4' : w4.ownsRow w.heap.size 5 1 v4 (n + 8 + path.size) (cellsOf zs ++ news path (ver % 4294967296)) := by rw [← eN]; exact o4
  obtain ⟨g, cap4, hv4, _, _⟩ := o4'.form (by omega)
  rw [hv4] at o4' ⊢
  obtain ⟨L1, ⟨l0, l1, l2, l3⟩, L2, ⟨v0, v1, v2, v3⟩⟩ := layout HN.out o4'
  have r0 : w4.cell? ⟨w2.heap.size, 0, none⟩ = some (.string path) := (g4.cell_far ⟨w2.heap.size, 0, none⟩ (by simp) hne).trans (by simp)
  have r1 : w4.cell? ⟨w2.heap.size, 1, none⟩ = some (.int .i32 ver) := (g4.cell_far ⟨w2.heap.size, 1, none⟩ (by simp) hne).trans (by simp)
  have bw4 : Below w.heap.size w w4 := (bw2.alloc bw2.size _).grown g4 (by simp; have := bw2.size; omega) (fun k hk => (m2.out k hk).1)
  have K4 : Hid (n = 0 ∨ ∃ O, a2 = some ⟨O, 0, none⟩ ∧ ∀ j, j < n → w4.cell? ⟨O, j, none⟩ = some (.int .u8 (zs.getD j 0))) := by
    rcases K2.out with k | ⟨O, e, hO1, hO2, hc⟩
    · exact .inl k
    · refine .inr ⟨O, e, fun j hj => ?_⟩
      refine (g4.cell_far ⟨O, j, none⟩ (by simp; omega) (fun h => ?_)).trans ?_
      · have := m2.out _ h.symm
        simp at this
        omega
      · rw [World.cell?_alloc_past _ _ _ hO2]
        exact hc j hj
  clear o4 g4 p2 b1 b2 bw2 K2 m2 hne o4' hv4 eN
  go_wp2_with fail
  refine (hasPrefix_any g _ cap4 n c2 a2 (by omega) (by omega) zs w4 L1 K4.out).mono ?_
  rintro e w5 ⟨rfl, q5, rfl⟩
  clear L1 K4
  go_wp2_with fail
  refine (readStr g _ cap4 n path (by omega) (by omega) (by omega) (w4.drewN q5) (by exact l0) (by exact l1) (by exact l2) (by exact l3) (by exact L2)).mono ?_
  rintro e w6 ⟨rfl, q6, rfl⟩
  clear l0 l1 l2 l3 L2
  go_wp2_with fail
  refine (rd32_at g cap4 _ (n + 4 + path.size) _ (by omega) _ _ _ _ (w4.drewN (q5 + q6)) (by omega) (by omega) (by exact v0) (by exact v1) (by exact v2) (by exact v3)).mono ?_
  rw [rdW_be (ver % 4294967296) (by omega) (by omega)]
  rintro e w7 ⟨rfl, q7, rfl⟩
  clear v0 v1 v2 v3
  have hq := ver_back ver hv.1 hv.2
  go_wp2
  go_ret
  exact ⟨by simp, below_drewN bw4 _⟩
end Go.Proofs.Qxb6605892a
