/- The walk of FnAdmitsOfShareCancels. -/
import Derived.Test.Qxb6608540aPlain2
namespace Go.Proofs.Qxb6608540a
open Go.RowKit Go.Maps

set_option maxRecDepth 100000 in
theorem share_neg (share a v : Int) (f : ByteArray) (fa : Option Addr) (len cap : Nat) (w : World) (hs : Sl w fa len) (hf : f.size ≤ maxLen) (ha : a < 0) :
    Calls Try.prog 5 #[.int .i64 share, .int .i64 a, .int .i64 v, .string f, .slice fa len cap] w fun e w' => e = .returned (.bool true) ∧ Below w.heap.size w w' := by
  go_enter Try.func5, Try.ntmps5
  go_wp2_with fail
  refine (bytesA hs cap _ _ _ f hf).mono ?_
  rintro e w' ⟨⟨q, rfl⟩, hw⟩
  obtain rfl := hw.symm
  cases q
  · go_wp2
    go_ret
    exact ⟨rfl, Below.refl _ _⟩
  by_cases hfl : 1048576 < (f.size : Int)
  · go_wp2
    go_ret
    exact ⟨rfl, Below.refl _ _⟩
  go_wp2_with fail
  refine (fit hs cap _ (by omega) (by omega)).mono ?_
  rintro e w' ⟨⟨r, rfl, hr0, hr1⟩, hw⟩
  obtain rfl := hw.symm
  by_cases hr : r < 0
  · go_wp2
    go_ret
    exact ⟨rfl, Below.refl _ _⟩
  go_wp2
  go_ret
  exact ⟨rfl, Below.refl _ _⟩

set_option maxHeartbeats 1000000 in
set_option maxRecDepth 100000 in
theorem share_ne (share a v : Int) (f : ByteArray) (fa : Option Addr) (len cap : Nat) (w : World) (hs : Sl w fa len) (hf : f.size ≤ maxLen) (hv : (Lit.int .i64 v).wf = true)
    (ha : ¬ a < 0) (h0 : (share == 0) = false) (h0' : (share != 0) = true) (E A ge gt le lt : Bool)
    (hE : (IntKind.u64.wrap a == uabs v) = E) (hA : decide (uabs v < IntKind.u64.wrap a) = A)
    (q1 : Hid (zz (ByteArray.mk #[62, 61]).toList (hiOf (prod a share)) (loOf (prod a share)) v share = ge))
    (q2 : Hid (zz (ByteArray.mk #[62]).toList (hiOf (prod a share)) (loOf (prod a share)) v share = gt))
    (q3 : Hid (zz (ByteArray.mk #[60, 61]).toList (hiOf (prod a share)) (loOf (prod a share)) v share = le))
    (q4 : Hid (zz (ByteArray.mk #[60]).toList (hiOf (prod a share)) (loOf (prod a share)) v share = lt))
    (hfin : Hid (((ge == (E || A)) && (gt == A) && (le == !gt) && (lt == !ge)) = true)) :
    Calls Try.prog 5 #[.int .i64 share, .int .i64 a, .int .i64 v, .string f, .slice fa len cap] w fun e w' => e = .returned (.bool true) ∧ Below w.heap.size w w' := by
  go_enter Try.func5, Try.ntmps5
  go_wp2_with fail
  refine (bytesA hs cap _ _ _ f hf).mono ?_
  rintro e w' ⟨⟨q, rfl⟩, hw⟩
  obtain rfl := hw.symm
  cases q
  · go_wp2
    go_ret
    exact ⟨rfl, Below.refl _ _⟩
  by_cases hfl : 1048576 < (f.size : Int)
  · go_wp2
    go_ret
    exact ⟨rfl, Below.refl _ _⟩
  go_wp2_with fail
  refine (fit hs cap _ (by omega) (by omega)).mono ?_
  rintro e w' ⟨⟨r, rfl, hr0, hr1⟩, hw⟩
  obtain rfl := hw.symm
  by_cases hr : r < 0
  · go_wp2
    go_ret
    exact ⟨rfl, Below.refl _ _⟩
  go_wp2_with fail
  refine (figures hs cap).mono ?_
  rintro e w1 ⟨⟨ga, gn, gc, rfl⟩, hb1⟩
  obtain ⟨w2, hrun, hh, hb2⟩ := one_pair w1 f hf v hv
  have hmm := @run_makeMap Try.prog
  go_wp2_with fail
  clear hrun hmm
  refine (share_any _ _ _).mono ?_
  rintro e w' ⟨rfl, o1, rfl⟩
  go_wp2_with (go_at_call 16; refine (uabs_any _ _).mono ?_; rintro e w' ⟨rfl, hw⟩; obtain rfl := hw.symm)
  have hh2 : Holds ((w2.alloc (Obj.cells o1 36)).alloc (Obj.cells #[Value.int IntKind.u64 (hiOf (prod a share)), Value.int IntKind.u64 (loOf (prod a share))] 36)) w1.heap.size f v := (hh.alloc _).alloc _
  refine (zz_is _ ga gn gc _ _ _ _ v _ _ hh2 hf ge q1.out).mono ?_
  rintro e w3 ⟨rfl, hb3⟩
  have hh3 := hh2.below hb3
  have hz3 : w2.heap.size + 1 < w3.heap.size := by have := hb3.size; simp at this; omega
  have c0 : w3.cell? ⟨w2.heap.size + 1, 0, none⟩ = some (.int .u64 (hiOf (prod a share))) := (hb3.cell (p := ⟨w2.heap.size + 1, 0, none⟩) (by simp)).trans (by simp)
  have c1 : w3.cell? ⟨w2.heap.size + 1, 1, none⟩ = some (.int .u64 (loOf (prod a share))) := (hb3.cell (p := ⟨w2.heap.size + 1, 1, none⟩) (by simp)).trans (by simp)
  have hw3 : Below w.heap.size w w3 := (hb1.trans (hb2.mono hb1.size)).trans ((((Below.refl _ _).alloc (Nat.le_refl _) _).alloc (by simp) _).trans (hb3.mono (by simp; omega)) |>.mono (Nat.le_trans hb1.size hb2.size))
  clear hb1 hb2 hb3 hh hh2 q1
  go_wp2_with fail
  refine (zz_is _ ga gn gc _ _ _ _ v _ _ hh3 hf gt q2.out).mono ?_
  rintro e w4 ⟨rfl, hb4⟩
  have hh4 := hh3.below hb4
  have hz4 : w2.heap.size + 1 < w4.heap.size := by have := hb4.size; omega
  have d0 : w4.cell? ⟨w2.heap.size + 1, 0, none⟩ = some (.int .u64 (hiOf (prod a share))) := (hb4.cell (p := ⟨w2.heap.size + 1, 0, none⟩) hz3).trans c0
  have d1 : w4.cell? ⟨w2.heap.size + 1, 1, none⟩ = some (.int .u64 (loOf (prod a share))) := (hb4.cell (p := ⟨w2.heap.size + 1, 1, none⟩) hz3).trans c1
  have hw4 : Below w.heap.size w w4 := hw3.trans (hb4.mono hw3.size)
  clear hb4 hh3 hw3 c0 c1 hz3 q2
  go_wp2_with fail
  refine (zz_is _ ga gn gc _ _ _ _ v _ _ hh4 hf le q3.out).mono ?_
  rintro e w5 ⟨rfl, hb5⟩
  have hh5 := hh4.below hb5
  have c0 : w5.cell? ⟨w2.heap.size + 1, 0, none⟩ = some (.int .u64 (hiOf (prod a share))) := (hb5.cell (p := ⟨w2.heap.size + 1, 0, none⟩) hz4).trans d0
  have c1 : w5.cell? ⟨w2.heap.size + 1, 1, none⟩ = some (.int .u64 (loOf (prod a share))) := (hb5.cell (p := ⟨w2.heap.size + 1, 1, none⟩) hz4).trans d1
  have hw5 : Below w.heap.size w w5 := hw4.trans (hb5.mono hw4.size)
  clear hb5 hh4 hw4 d0 d1 hz4 q3
  go_wp2_with fail
  refine (zz_is _ ga gn gc _ _ _ _ v _ _ hh5 hf lt q4.out).mono ?_
  rintro e w6 ⟨rfl, hb6⟩
  have hw6 : Below w.heap.size w w6 := hw5.trans (hb6.mono hw5.size)
  clear hb6 hh5 hw5 c0 c1 q4 hE hA
  have hF := hfin.out
  clear hfin
  cases ge <;> cases gt <;> cases le <;> cases lt <;> cases E <;> cases A <;> first | (exfalso; revert hF; decide) | skip
  all_goals
    clear hF
    go_wp2
    go_ret
    exact ⟨rfl, hw6⟩

set_option maxHeartbeats 1000000 in
set_option maxRecDepth 100000 in
theorem share_eq (share a v : Int) (f : ByteArray) (fa : Option Addr) (len cap : Nat) (w : World) (hs : Sl w fa len) (hf : f.size ≤ maxLen) (hv : (Lit.int .i64 v).wf = true)
    (ha : ¬ a < 0) (h0 : (share == 0) = true) (h0' : (share != 0) = false) (ge gt le lt : Bool)
    (q1 : Hid (zz (ByteArray.mk #[62, 61]).toList (hiOf (prod a share)) (loOf (prod a share)) v share = ge))
    (q2 : Hid (zz (ByteArray.mk #[62]).toList (hiOf (prod a share)) (loOf (prod a share)) v share = gt))
    (q3 : Hid (zz (ByteArray.mk #[60, 61]).toList (hiOf (prod a share)) (loOf (prod a share)) v share = le))
    (q4 : Hid (zz (ByteArray.mk #[60]).toList (hiOf (prod a share)) (loOf (prod a share)) v share = lt))
    (hfin : Hid (((ge == true) && (gt == false) && (le == !gt) && (lt == !ge)) = true)) :
    Calls Try.prog 5 #[.int .i64 share, .int .i64 a, .int .i64 v, .string f, .slice fa len cap] w fun e w' => e = .returned (.bool true) ∧ Below w.heap.size w w' := by
  go_enter Try.func5, Try.ntmps5
  go_wp2_with fail
  refine (bytesA hs cap _ _ _ f hf).mono ?_
  rintro e w' ⟨⟨q, rfl⟩, hw⟩
  obtain rfl := hw.symm
  cases q
  · go_wp2
    go_ret
    exact ⟨rfl, Below.refl _ _⟩
  by_cases hfl : 1048576 < (f.size : Int)
  · go_wp2
    go_ret
    exact ⟨rfl, Below.refl _ _⟩
  go_wp2_with fail
  refine (fit hs cap _ (by omega) (by omega)).mono ?_
  rintro e w' ⟨⟨r, rfl, hr0, hr1⟩, hw⟩
  obtain rfl := hw.symm
  by_cases hr : r < 0
  · go_wp2
    go_ret
    exact ⟨rfl, Below.refl _ _⟩
  go_wp2_with fail
  refine (figures hs cap).mono ?_
  rintro e w1 ⟨⟨ga, gn, gc, rfl⟩, hb1⟩
  obtain ⟨w2, hrun, hh, hb2⟩ := one_pair w1 f hf v hv
  have hmm := @run_makeMap Try.prog
  go_wp2_with fail
  clear hrun hmm
  refine (share_any _ _ _).mono ?_
  rintro e w' ⟨rfl, o1, rfl⟩
  go_wp2_with fail
  have hh2 : Holds ((w2.alloc (Obj.cells o1 36)).alloc (Obj.cells #[Value.int IntKind.u64 (hiOf (prod a share)), Value.int IntKind.u64 (loOf (prod a share))] 36)) w1.heap.size f v := (hh.alloc _).alloc _
  refine (zz_is _ ga gn gc _ _ _ _ v _ _ hh2 hf ge q1.out).mono ?_
  rintro e w3 ⟨rfl, hb3⟩
  have hh3 := hh2.below hb3
  have hz3 : w2.heap.size + 1 < w3.heap.size := by have := hb3.size; simp at this; omega
  have c0 : w3.cell? ⟨w2.heap.size + 1, 0, none⟩ = some (.int .u64 (hiOf (prod a share))) := (hb3.cell (p := ⟨w2.heap.size + 1, 0, none⟩) (by simp)).trans (by simp)
  have c1 : w3.cell? ⟨w2.heap.size + 1, 1, none⟩ = some (.int .u64 (loOf (prod a share))) := (hb3.cell (p := ⟨w2.heap.size + 1, 1, none⟩) (by simp)).trans (by simp)
  have hw3 : Below w.heap.size w w3 := (hb1.trans (hb2.mono hb1.size)).trans ((((Below.refl _ _).alloc (Nat.le_refl _) _).alloc (by simp) _).trans (hb3.mono (by simp; omega)) |>.mono (Nat.le_trans hb1.size hb2.size))
  clear hb1 hb2 hb3 hh hh2 q1
  go_wp2_with fail
  refine (zz_is _ ga gn gc _ _ _ _ v _ _ hh3 hf gt q2.out).mono ?_
  rintro e w4 ⟨rfl, hb4⟩
  have hh4 := hh3.below hb4
  have hz4 : w2.heap.size + 1 < w4.heap.size := by have := hb4.size; omega
  have d0 : w4.cell? ⟨w2.heap.size + 1, 0, none⟩ = some (.int .u64 (hiOf (prod a share))) := (hb4.cell (p := ⟨w2.heap.size + 1, 0, none⟩) hz3).trans c0
  have d1 : w4.cell? ⟨w2.heap.size + 1, 1, none⟩ = some (.int .u64 (loOf (prod a share))) := (hb4.cell (p := ⟨w2.heap.size + 1, 1, none⟩) hz3).trans c1
  have hw4 : Below w.heap.size w w4 := hw3.trans (hb4.mono hw3.size)
  clear hb4 hh3 hw3 c0 c1 hz3 q2
  go_wp2_with fail
  refine (zz_is _ ga gn gc _ _ _ _ v _ _ hh4 hf le q3.out).mono ?_
  rintro e w5 ⟨rfl, hb5⟩
  have hh5 := hh4.below hb5
  have c0 : w5.cell? ⟨w2.heap.size + 1, 0, none⟩ = some (.int .u64 (hiOf (prod a share))) := (hb5.cell (p := ⟨w2.heap.size + 1, 0, none⟩) hz4).trans d0
  have c1 : w5.cell? ⟨w2.heap.size + 1, 1, none⟩ = some (.int .u64 (loOf (prod a share))) := (hb5.cell (p := ⟨w2.heap.size + 1, 1, none⟩) hz4).trans d1
  have hw5 : Below w.heap.size w w5 := hw4.trans (hb5.mono hw4.size)
  clear hb5 hh4 hw4 d0 d1 hz4 q3
  go_wp2_with fail
  refine (zz_is _ ga gn gc _ _ _ _ v _ _ hh5 hf lt q4.out).mono ?_
  rintro e w6 ⟨rfl, hb6⟩
  have hw6 : Below w.heap.size w w6 := hw5.trans (hb6.mono hw5.size)
  clear hb6 hh5 hw5 c0 c1 q4
  have hF := hfin.out
  clear hfin
  cases ge <;> cases gt <;> cases le <;> cases lt <;> first | (exfalso; revert hF; decide) | skip
  all_goals
    clear hF
    go_wp2
    go_ret
    exact ⟨rfl, hw6⟩

theorem share_walk (share a v : Int) (f : ByteArray) (fa : Option Addr) (len cap : Nat) (w : World) (hs : Sl w fa len) (hf : f.size ≤ maxLen) (hp : (Lit.int .i64 share).wf = true) (hv : (Lit.int .i64 v).wf = true) :
    Calls Try.prog 5 #[.int .i64 share, .int .i64 a, .int .i64 v, .string f, .slice fa len cap] w fun e w' => e = .returned (.bool true) ∧ Below w.heap.size w w' := by
  by_cases ha : a < 0
  · exact share_neg share a v f fa len cap w hs hf ha
  obtain ⟨z1, z2, z3, z4⟩ := meets_four (sgn (IntKind.u64.wrap a * IntKind.u64.wrap share) (uabs v * IntKind.u64.wrap share))
  rw [← zz_sgn] at z1 z2 z3 z4
  by_cases h : share = 0
  · subst h
    have e : IntKind.u64.wrap 0 = 0 := by rw [IntKind.wrap_u64]; rfl
    rw [e, Int.mul_zero, Int.mul_zero, sgn_same] at z1 z2 z3 z4
    exact share_eq 0 a v f fa len cap w hs hf hv ha rfl rfl _ _ _ _ z1 z2 z3 z4 (by unfold Hid; decide)
  have h0 : (share == 0) = false := by simpa using h
  have h0' : (share != 0) = true := by simpa using h
  have hpos := wrap_pos share h0 hp
  rcases Int.lt_trichotomy (IntKind.u64.wrap a) (uabs v) with g | g | g
  · rw [sgn_lt _ _ _ hpos g] at z1 z2 z3 z4
    exact share_ne share a v f fa len cap w hs hf hv ha h0 h0' false false _ _ _ _ (by simp; omega) (by simp; omega) z1 z2 z3 z4 (by unfold Hid; decide)
  · rw [g, sgn_same] at z1 z2 z3 z4
    exact share_ne share a v f fa len cap w hs hf hv ha h0 h0' true false _ _ _ _ (by simp; omega) (by simp; omega) z1 z2 z3 z4 (by unfold Hid; decide)
  · rw [sgn_gt _ _ _ hpos g] at z1 z2 z3 z4
    exact share_ne share a v f fa len cap w hs hf hv ha h0 h0' false true _ _ _ _ (by simp; omega) (by simp; omega) z1 z2 z3 z4 (by unfold Hid; decide)
end Go.Proofs.Qxb6608540a
