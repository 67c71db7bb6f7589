/- The walk of FnAdmitsOfFourOpsAndRest. -/
import Derived.Test.Qxb6608540aD4
import Derived.Test.Qxb6608540aPlain2
namespace Go.Proofs.Qxb6608540a
open Go.RowKit Go.Maps

theorem zz_at (o : List UInt8) (X v p : Int) : zz o (hiOf X) (loOf X) v p = meets o (sgn X (uabs v * IntKind.u64.wrap p)) := by
  unfold zz
  rw [cmpE_eq, prod_abs]

theorem cmp_is (a b c d : Int) (ha : Word a) (hb : Word b) (hc : Word c) (hd : Word d) (w : World) (C : Int) (hC : sgn (a * b) (c * d) = C) :
    Calls Try.prog 22 #[.int .u64 a, .int .u64 b, .int .u64 c, .int .u64 d] w fun e w' => e = .returned (.int .i64 C) ∧ w' = w := by
  subst hC
  exact cmpProducts_any a b c d ha hb hc hd w

theorem word_wrap (n : Int) : Word (IntKind.u64.wrap n) := wrap_bd n
theorem word_uabs (n : Int) : Word (uabs n) := by
  unfold uabs
  split
  · exact wrap_bd _
  · exact wrap_bd _

set_option maxHeartbeats 2000000 in
set_option maxRecDepth 100000 in
theorem four_core (op f : ByteArray) (share aS aB : Int) (a2 a5 a6 : Option Addr) (l2 c2 l5 c5 l6 c6 : Nat) (ss : List ByteArray) (zs : List Int) (w : World)
    (h2 : Sl w a2 l2) (h5 : Ks w a5 l5 ss) (h6 : Vs w a6 l6 zs) (ho : op.size ≤ maxLen) (hf : f.size ≤ maxLen) (hB : ¬ aB < 0)
    (v : Int) (hv : lookTo ss zs f (min l5 l6) = v) (C : Int) (ge le dr : Bool)
    (hC : Hid (sgn (IntKind.u64.wrap aS * IntKind.u64.wrap aB) (IntKind.u64.wrap share * uabs v) = C))
    (q1 : Hid (zz (ByteArray.mk #[62, 61]).toList (hiOf (prod aB aS)) (loOf (prod aB aS)) v share = ge))
    (q2 : Hid (zz (ByteArray.mk #[62]).toList (hiOf (prod aB aS)) (loOf (prod aB aS)) v share = !le))
    (q3 : Hid (zz (ByteArray.mk #[60, 61]).toList (hiOf (prod aB aS)) (loOf (prod aB aS)) v share = le))
    (q4 : Hid (zz (ByteArray.mk #[60]).toList (hiOf (prod aB aS)) (loOf (prod aB aS)) v share = !ge))
    (q5 : Hid (zz op.toList (hiOf (prod aB aS)) (loOf (prod aB aS)) v share = dr))
    (hge : Hid (decide (0 ≤ C) = ge)) (hle : Hid (decide (C ≤ 0) = le))
    (d1 : Hid ((op.toList == [62, 61]) = true → dr = ge))
    (d2 : Hid ((op.toList == [62, 61]) = false → (op.toList == [62]) = true → dr = !le))
    (d3 : Hid ((op.toList == [62, 61]) = false → (op.toList == [62]) = false → (op.toList == [60, 61]) = true → dr = le))
    (d4 : Hid ((op.toList == [62, 61]) = false → (op.toList == [62]) = false → (op.toList == [60, 61]) = false → (op.toList == [60]) = true → dr = !ge))
    (d5 : Hid ((op.toList == [62, 61]) = false → (op.toList == [62]) = false → (op.toList == [60, 61]) = false → (op.toList == [60]) = false → dr = false)) :
    Calls Try.prog 8 #[.string op, .int .i64 share, .slice a2 l2 c2, .int .i64 aS, .int .i64 aB, .slice a5 l5 c5, .slice a6 l6 c6, .string f] w fun e w' => e = .returned (.bool true) ∧ Below w.heap.size w w' := by
  have hr6 := h6.1
  go_enter Try.func8, Try.ntmps8
  go_wp2_with fail
  refine (bytesB h2 h5.sl c2 c5 a6 l6 c6 hr6 _ _ _ op f ho hf).mono ?_
  rintro e w' ⟨⟨q, rfl⟩, hw⟩
  obtain rfl := hw.symm
  cases q
  · go_wp2
    go_ret
    exact ⟨rfl, Below.refl _ _⟩
  by_cases hol : 1048576 < (op.size : Int)
  · go_wp2
    go_ret
    exact ⟨rfl, Below.refl _ _⟩
  go_wp2_with fail
  refine (fit h2 c2 _ (by omega) (by omega)).mono ?_
  rintro e w' ⟨⟨r, rfl, hr0, hr1⟩, hw⟩
  obtain rfl := hw.symm
  by_cases hr : r < 0
  · go_wp2
    go_ret
    exact ⟨rfl, Below.refl _ _⟩
  go_wp2_with fail
  refine (fit h5.sl c5 _ (by omega) (by omega)).mono ?_
  rintro e w' ⟨⟨r2, rfl, hs0, hs1⟩, hw⟩
  obtain rfl := hw.symm
  by_cases hs : r2 < 0
  · go_wp2
    go_ret
    exact ⟨rfl, Below.refl _ _⟩
  by_cases ht : r2 / 8 < (l6 : Int)
  · go_wp2
    go_ret
    exact ⟨rfl, Below.refl _ _⟩
  by_cases hu : r2 - 8 * (l6 : Int) < (f.size : Int)
  · go_wp2
    go_ret
    exact ⟨rfl, Below.refl _ _⟩
  go_wp2_with fail
  refine (figures h2 c2).mono ?_
  rintro e w1 ⟨⟨ga, gn, gc, rfl⟩, hb1⟩
  have k5 := h5.below hb1
  have k6 := h6.below hb1
  go_wp2_with fail
  refine (figureMap_any k5 k6 c5 c6 f).mono ?_
  rw [hv]
  rintro e w2 ⟨rfl, hh, hb2⟩
  have m5 := k5.below hb2
  have m6 := k6.below hb2
  clear h5 h6 k5 k6
  go_wp2_with fail
  refine (share_any _ _ _).mono ?_
  rintro e w' ⟨rfl, o1, rfl⟩
  go_wp2_with fail
  have hb3' : Below w2.heap.size w2 ((w2.alloc (Obj.cells o1 36)).alloc (Obj.cells #[Value.int IntKind.u64 (hiOf (prod aB aS)), Value.int IntKind.u64 (loOf (prod aB aS))] 36)) := ((Below.refl _ _).alloc (Nat.le_refl _) _).alloc (by simp) _
  have m5' := m5.below hb3'
  have m6' := m6.below hb3'
  have hh2 := hh.below hb3'
  clear m5 m6 hh
  refine (lookup_any m5' m6' c5 c6 f).mono ?_
  rw [hv]
  rintro e w' ⟨rfl, hw⟩
  obtain rfl := hw.symm
  clear m5' m6' hv
  go_wp2_with fail
  refine (uabs_any _ _).mono ?_
  rintro e w' ⟨rfl, hw⟩
  obtain rfl := hw.symm
  go_wp2_with fail
  refine (cmp_is _ _ _ _ (word_wrap _) (word_wrap _) (word_wrap _) (word_uabs _) _ C hC.out).mono ?_
  rintro e w' ⟨rfl, hw⟩
  obtain rfl := hw.symm
  clear hC
  go_wp2_with fail
  refine (zz_is _ ga gn gc _ _ _ _ v _ _ hh2 hf ge q1.out).mono ?_
  rintro e w3 ⟨rfl, hb3⟩
  have hh3 := hh2.below hb3
  have hz3 : w2.heap.size + 1 < w3.heap.size := by have := hb3.size; simp at this; omega
  have c0 : w3.cell? ⟨w2.heap.size + 1, 0, none⟩ = some (.int .u64 (hiOf (prod aB aS))) := (hb3.cell (p := ⟨w2.heap.size + 1, 0, none⟩) (by simp)).trans (by simp)
  have c1 : w3.cell? ⟨w2.heap.size + 1, 1, none⟩ = some (.int .u64 (loOf (prod aB aS))) := (hb3.cell (p := ⟨w2.heap.size + 1, 1, none⟩) (by simp)).trans (by simp)
  have hw3 : Below w.heap.size w w3 := (hb1.trans (hb2.mono hb1.size)).trans ((hb3'.trans (hb3.mono (by simp; omega))).mono (Nat.le_trans hb1.size hb2.size))
  clear hb1 hb2 hb3 hb3' hh2 q1
  go_wp2_with fail
  refine (zz_is _ ga gn gc _ _ _ _ v _ _ hh3 hf (!le) q2.out).mono ?_
  rintro e w4 ⟨rfl, hb4⟩
  have hh4 := hh3.below hb4
  have hz4 : w2.heap.size + 1 < w4.heap.size := by have := hb4.size; omega
  have d0 : w4.cell? ⟨w2.heap.size + 1, 0, none⟩ = some (.int .u64 (hiOf (prod aB aS))) := (hb4.cell (p := ⟨w2.heap.size + 1, 0, none⟩) hz3).trans c0
  have d1 : w4.cell? ⟨w2.heap.size + 1, 1, none⟩ = some (.int .u64 (loOf (prod aB aS))) := (hb4.cell (p := ⟨w2.heap.size + 1, 1, none⟩) hz3).trans c1
  have hw4 : Below w.heap.size w w4 := hw3.trans (hb4.mono hw3.size)
  clear hb4 hh3 hw3 c0 c1 hz3 q2
  go_wp2_with fail
  refine (zz_is _ ga gn gc _ _ _ _ v _ _ hh4 hf (le) q3.out).mono ?_
  rintro e w5 ⟨rfl, hb5⟩
  have hh5 := hh4.below hb5
  have hz5 : w2.heap.size + 1 < w5.heap.size := by have := hb5.size; omega
  have c0 : w5.cell? ⟨w2.heap.size + 1, 0, none⟩ = some (.int .u64 (hiOf (prod aB aS))) := (hb5.cell (p := ⟨w2.heap.size + 1, 0, none⟩) hz4).trans d0
  have c1 : w5.cell? ⟨w2.heap.size + 1, 1, none⟩ = some (.int .u64 (loOf (prod aB aS))) := (hb5.cell (p := ⟨w2.heap.size + 1, 1, none⟩) hz4).trans d1
  have hw5 : Below w.heap.size w w5 := hw4.trans (hb5.mono hw4.size)
  clear hb5 hh4 hw4 d0 d1 hz4 q3
  go_wp2_with fail
  refine (zz_is _ ga gn gc _ _ _ _ v _ _ hh5 hf (!ge) q4.out).mono ?_
  rintro e w6 ⟨rfl, hb6⟩
  have hh6 := hh5.below hb6
  have hz6 : w2.heap.size + 1 < w6.heap.size := by have := hb6.size; omega
  have d0 : w6.cell? ⟨w2.heap.size + 1, 0, none⟩ = some (.int .u64 (hiOf (prod aB aS))) := (hb6.cell (p := ⟨w2.heap.size + 1, 0, none⟩) hz5).trans c0
  have d1 : w6.cell? ⟨w2.heap.size + 1, 1, none⟩ = some (.int .u64 (loOf (prod aB aS))) := (hb6.cell (p := ⟨w2.heap.size + 1, 1, none⟩) hz5).trans c1
  have hw6 : Below w.heap.size w w6 := hw5.trans (hb6.mono hw5.size)
  clear hb6 hh5 hw5 c0 c1 hz5 q4
  go_wp2_with fail
  refine (zz_is _ ga gn gc _ _ _ _ v _ _ hh6 hf dr q5.out).mono ?_
  rintro e w7 ⟨rfl, hb7⟩
  have hw7 : Below w.heap.size w w7 := hw6.trans (hb7.mono hw6.size)
  clear hb7 hh6 hw6 d0 d1 hz6 q5
  have e1 := hge.out
  have e2 := hle.out
  clear hge hle
  rcases Bool.eq_false_or_eq_true (op.toList == [62, 61]) with t1 | t1
  · obtain rfl := d1.out t1
    clear d1 d2 d3 d4 d5
    cases dr <;> cases le <;> first | (exfalso; simp at e1 e2; omega) | (go_wp2; go_ret; exact ⟨rfl, hw7⟩)
  rcases Bool.eq_false_or_eq_true (op.toList == [62]) with t2 | t2
  · obtain rfl := d2.out t1 t2
    clear d1 d2 d3 d4 d5
    cases ge <;> cases le <;> first | (exfalso; simp at e1 e2; omega) | (go_wp2; go_ret; exact ⟨rfl, hw7⟩)
  rcases Bool.eq_false_or_eq_true (op.toList == [60, 61]) with t3 | t3
  · obtain rfl := d3.out t1 t2 t3
    clear d1 d2 d3 d4 d5
    cases ge <;> cases dr <;> first | (exfalso; simp at e1 e2; omega) | (go_wp2; go_ret; exact ⟨rfl, hw7⟩)
  rcases Bool.eq_false_or_eq_true (op.toList == [60]) with t4 | t4
  · obtain rfl := d4.out t1 t2 t3 t4
    clear d1 d2 d3 d4 d5
    cases ge <;> cases le <;> first | (exfalso; simp at e1 e2; omega) | (go_wp2; go_ret; exact ⟨rfl, hw7⟩)
  obtain rfl := d5.out t1 t2 t3 t4
  clear d1 d2 d3 d4 d5
  cases ge <;> cases le <;> first | (exfalso; simp at e1 e2; omega) | (go_wp2; go_ret; exact ⟨rfl, hw7⟩)
end Go.Proofs.Qxb6608540a
