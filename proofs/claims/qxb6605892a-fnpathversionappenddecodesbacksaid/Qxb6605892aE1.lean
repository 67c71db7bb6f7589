/- The contracts over rows of bytes. -/
import Derived.Test.Qxb6605892aRows
import Derived.Test.Qxb6605892aPlain
import Derived.Deep.AppendLies
import Derived.WalkKit
import Derived.WalkSpells
import Derived.StillTactics
import Derived.Laws.Pointers
import Derived.Deep.QuietTactic
import Derived.BigQuiet
import Derived.RowKit3
import Derived.Maps.AppendAt
import Derived.Lib.AppendStr
import Derived.OwnWalk
import Derived.Outline
namespace Go.Proofs.Qxb6605892a
open Go.RowKit

theorem info5 : (Try.prog.info? 5).map (fun i => (i.zero, i.size, i.bytes)) = some (some (.int .u8 0), 1, 1) := by kernel_rfl

/-- Numbers as cells of bytes. -/
def cellsOf (zs : List Int) : List Value := zs.map fun z => Value.int .u8 z

theorem cellsOf_one (zs : List Int) : ∀ u ∈ cellsOf zs, u.oneCell' = true := by
  intro u hu
  obtain ⟨z, _, rfl⟩ := List.mem_map.1 hu
  rfl

/-- What an append onto v comes to: a value that owns the old bytes and the new ones; nothing else has turned. -/
def Appended (w : World) (base : Nat) (v : Value) (n : Nat) (xs news : List Value) (e : Ending) (w' : World) : Prop :=
  ∃ v', e = .returned v' ∧ w'.ownsRow base 5 1 v' (n + news.length) (xs ++ news) ∧ w.grownBy w' v.ownBlock ∧ (v'.ownBlock = v.ownBlock ∨ ∃ g, v'.ownBlock = some g ∧ w.heap.size ≤ g)

theorem append32 (base n : Nat) (v : Value) (xs : List Value) (x : Int) (w : World) (hown : w.ownsRow base 5 1 v n xs) (hn : n ≤ 100000000) (hbase : base ≤ w.heap.size) :
    Calls Try.prog 37 #[.agg #[], v, .int .u32 x] w fun e w' => Appended w base v n xs (cellsOf (be32 x)) e w' := by
  obtain ⟨i0, hi, hz0, hz1, hz2⟩ := info_parts info5
  go_enter Try.func37, Try.ntmps37
  go_wp2_with (at_builtin; refine wpList_append_own_at _ rfl _ _ 22 rfl base 5 i0 (.int .u8 0) 1 1 Try.underlying22 hi hz0 hz1 hz2 rfl (by decide) v n xs rfl ((hown.alloc _).alloc _) ⟨w.heap.size + 1, 0, none⟩ 4 4 (cellsOf (be32 x)) rfl rfl ?hnews (cellsOf_one _) (by unfold maxLen; omega) (by omega) (by simp; omega) ?_)
  case hnews =>
    have hb := heap_alloc_new (w.alloc (Obj.cells #[] 56)) (Obj.cells #[Value.int IntKind.u8 (x / 16777216 % 256), Value.int IntKind.u8 (x / 65536 % 256), Value.int IntKind.u8 (x / 256 % 256), Value.int IntKind.u8 (x % 256)] 5)
    rw [World.size_alloc] at hb
    exact World.news_of_block hb
  intro v' w1 hown1 hgrow hnil hat
  have hg2 := (World.grownBy_alloc w (Obj.cells #[] 56) v.ownBlock).trans ((World.grownBy_alloc _ (Obj.cells #[Value.int IntKind.u8 (x / 16777216 % 256), Value.int IntKind.u8 (x / 65536 % 256), Value.int IntKind.u8 (x / 256 % 256), Value.int IntKind.u8 (x % 256)] 5) v.ownBlock).trans hgrow)
  have hat2 : v'.ownBlock = v.ownBlock ∨ ∃ g, v'.ownBlock = some g ∧ w.heap.size ≤ g := by
    rcases hat with h | h
    · exact .inl h
    · exact .inr ⟨_, h, by omega⟩
  clear hgrow hnil hat hown
  go_wp2
  go_ret
  exact ⟨v', rfl, hown1, hg2, hat2⟩

theorem appendInt32 (base n : Nat) (v : Value) (xs : List Value) (x : Int) (w : World) (hown : w.ownsRow base 5 1 v n xs) (hn : n ≤ 100000000) (hbase : base ≤ w.heap.size) :
    Calls Try.prog 33 #[v, .int .i32 x] w fun e w' => Appended w base v n xs (cellsOf (be32 (x % 4294967296))) e w' := by
  go_enter Try.func33, Try.ntmps33
  go_wp2_with fail
  refine (append32 base n v xs _ w hown hn hbase).mono ?_
  rintro e w' ⟨v', rfl, h1, h2, h3⟩
  go_wp2
  go_ret
  exact ⟨v', rfl, h1, h2, h3⟩

/-- Where the slice lies that an append of a string's bytes gives. -/
theorem string_at (w : World) (base ty : Nat) (i : TypeInfo) (hi : Try.prog.info? 5 = some i) (hz : i.zero = some (.int .u8 0)) (hsize : i.size = 1) (hby : i.bytes = 1)
    (v : Value) (n : Nat) (xs : List Value) (hown : w.ownsRow base 5 1 v n xs) (s : ByteArray) (h0 : 0 < n) (hn : n + s.size ≤ 1000000000)
    (v' : Value) (w' : World) (hr : (Builtin.append_ #[22, 9] ty #[v, .string s]).run Try.prog w = .ok v' w') :
    v'.ownBlock = v.ownBlock ∨ ∃ g, v'.ownBlock = some g ∧ w.heap.size ≤ g := by
  have hxl : xs.length = n := by simpa using hown.1
  rcases hown.2 with ⟨rfl, rfl⟩ | ⟨g, cap, cur, rfl, hbg, hg, hnc, hcm, hcs, htake⟩
  · omega
  · by_cases hroom : n + s.size ≤ cap
    · have hcs' : cur.size = cap := by simpa using hcs
      have hq := Lib.run_append_room_string (P := Try.prog) w 22 9 ty 5 i Try.underlying22 Try.underlying9 hi hsize g n cap cur hg s hroom (by omega)
      rw [hq] at hr
      injection hr with hr _
      rw [← hr]
      exact .inl rfl
    · have holds : ∀ j u, xs[j]? = some u → w.cell? ((⟨g, 0, none⟩ : Addr).add j) = some u := hown.cells (g := g) rfl
      have hq := Lib.run_append_grow_string (P := Try.prog) w 22 9 ty 5 i (.int .u8 0) Try.underlying22 Try.underlying9 hi hz ⟨g, 0, none⟩ n cap xs (by rw [hsize]; simpa using hxl) holds s (by omega) (by omega) (by rw [hby]; exact growslice_fits (by omega) (by omega))
      rw [hq] at hr
      injection hr with hr _
      rw [← hr]
      exact .inr ⟨_, rfl, Nat.le_refl _⟩

theorem Appended.mk2 {w : World} {base : Nat} {v : Value} {n : Nat} {xs n1 n2 : List Value} {v1 : Value} {w1 : World} {e : Ending} {w2 : World}
    (g1 : w.grownBy w1 v.ownBlock) (l1 : v1.ownBlock = v.ownBlock ∨ ∃ g, v1.ownBlock = some g ∧ w.heap.size ≤ g)
    (h2 : Appended w1 base v1 (n + n1.length) (xs ++ n1) n2 e w2) : Appended w base v n xs (n1 ++ n2) e w2 := by
  obtain ⟨v2, e2, o2, g2, l2⟩ := h2
  refine ⟨v2, e2, ?_, ?_, ?_⟩
  · rw [List.length_append, ← Nat.add_assoc, ← List.append_assoc]
    exact o2
  · refine ⟨g2.os.trans g1.os, g2.tape.trans g1.tape, g2.output.trans g1.output, Nat.le_trans g1.size g2.size, fun k hk hne => ?_⟩
    refine (g2.block k (Nat.lt_of_lt_of_le hk g1.size) ?_).trans (g1.block k hk hne)
    rcases l1 with l1 | ⟨g, l1, hg⟩
    · rw [l1]; exact hne
    · rw [l1]; intro h; injection h with h; omega
  · rcases l2 with l2 | ⟨g, l2, hg⟩
    · rcases l1 with l1 | ⟨g, l1, hg⟩
      · exact .inl (l2.trans l1)
      · exact .inr ⟨g, l2.trans l1, hg⟩
    · exact .inr ⟨g, l2, Nat.le_trans g1.size hg⟩

/-- An append whose run is known, at the operation. -/
theorem wpList_append_run {P : Program} (w : World) {ops : Array Oper} {rest : List Oper} {o : Oper} {a : Act} {Q : Exit → Act → World → Prop} (hgd : o.guard = none) (sl x : Operand) (t u : TypeId)
    (ho : o.op = .call { callee := .builtin .append, args := #[sl, x], argTypes := #[t, u] }) (v sv v' : Value) (w' : World) (hs : a.eval sl = v) (hx : a.eval x = sv)
    (hr : (Builtin.append_ #[t, u] o.type #[v, sv]).run P w = .ok v' w') (h : wpList P ops Q rest (a.put o.dst v') w') : wpList P ops Q (o :: rest) a w := by
  refine wpList_plain hgd fun K hK => ?_
  unfold Oper.wp execOp
  simp only [ho, resolve, invoke, builtin, Sem.run_bind, Sem.run_pure, Result.andThen_ok, List.map_toArray, List.map_cons, List.map_nil, hs, hx, hr]
  exact hK _ _ h

theorem appendString (base n : Nat) (v : Value) (xs : List Value) (s : ByteArray) (hs : s.size ≤ 1048576) (w : World) (hown : w.ownsRow base 5 1 v n xs) (hn : n ≤ 10000000) (hbase : base ≤ w.heap.size) :
    Calls Try.prog 35 #[v, .string s] w fun e w' => Appended w base v n xs (cellsOf (be32 s.size) ++ Lib.strCells s) e w' := by
  obtain ⟨i0, hi, hz0, hz1, hz2⟩ := info_parts info5
  have es : ((s.size : Int) % 4294967296) = (s.size : Int) := by omega
  go_enter Try.func35, Try.ntmps35
  go_wp2_with fail
  refine (appendInt32 base n v xs _ w hown (by omega) hbase).mono ?_
  rw [es]
  rintro e w1 ⟨v1, rfl, o1, g1, l1⟩
  have o1' : w1.ownsRow base 5 1 v1 (n + 4) (xs ++ cellsOf (be32 s.size)) := o1
  obtain ⟨v2, w2, hrun, o2, g2, hnil⟩ := Lib.run_append_own_string (P := Try.prog) w1 base 22 9 22 5 i0 Try.underlying22 Try.underlying9 hi hz0 hz1 hz2 v1 (n + 4) _ o1' s (by unfold maxLen; omega) (by omega) (Nat.le_trans hbase g1.size)
  have l2 := string_at w1 base 22 i0 hi hz0 hz1 hz2 v1 (n + 4) _ o1' s (by omega) (by omega) v2 w2 hrun
  have R : Appended w base v n xs (cellsOf (be32 s.size) ++ Lib.strCells s) (.returned v2) w2 :=
    Appended.mk2 g1 l1 ⟨v2, rfl, by rw [Lib.strCells_length]; exact o2, g2, l2⟩
  have HR : Hid ((Builtin.append_ #[22, 9] 22 #[v1, .string s]).run Try.prog w1 = .ok v2 w2) := hrun
  clear hown o1 o1' g1 l1 o2 g2 hnil l2 es hrun
  go_wp2_with (at_builtin; refine wpList_append_run _ rfl _ _ 22 9 rfl v1 (.string s) v2 w2 rfl rfl HR.out ?_)
  go_ret
  exact R

theorem rd32 (g cap N i : Nat) (a b c d : Int) (w : World) (h : (i : Int) + 4 ≤ (N : Int)) (hN : (N : Int) ≤ 100000000)
  (h0 : w.cell? ⟨g, i, none⟩ = some (.int .u8 a)) (h1 : w.cell? ⟨g, i + 1, none⟩ = some (.int .u8 b)) (h2 : w.cell? ⟨g, i + 2, none⟩ = some (.int .u8 c)) (h3 : w.cell? ⟨g, i + 3, none⟩ = some (.int .u8 d)) :
    Calls Try.prog 15 #[.slice (some ⟨g, 0, none⟩) N cap, .int .i64 i] w fun e w' => e = .returned (.int .u32 (rdW a b c d)) ∧ ∃ q, w' = w.drewN q := by
  unfold rdW
  go_enter Try.func15, Try.ntmps15
  go_wp2
  go_quiet (fail)
  go_wp2
  go_ret
  exact ⟨rfl, _, rfl⟩
end Go.Proofs.Qxb6605892a
