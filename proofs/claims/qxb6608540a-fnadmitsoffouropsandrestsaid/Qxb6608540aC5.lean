/- The contracts of the slice readers, for whatever slice of strings; and the bound's answer as a plain Bool. -/
import Derived.Test.Qxb6608540aC4
namespace Go.Proofs.Qxb6608540a
open Go.RowKit Go.Maps

/-- The slice at a of len strings can be read, within the form's reach. -/
def Sl (w : World) (a : Option Addr) (len : Nat) : Prop :=
  len * 16 ≤ 140737488351232 ∧ (len = 0 ∨ ∃ (b off : Nat) (ss : List ByteArray), a = some ⟨b, off, none⟩ ∧ Strs w b off len ss)

theorem bytesA {w : World} {a : Option Addr} {len : Nat} (h : Sl w a len) (cap : Nat) (x0 x1 x2 : Int) (f : ByteArray) (hf : f.size ≤ maxLen) :
    Calls Try.prog 12 #[.int .i64 x0, .int .i64 x1, .int .i64 x2, .string f, .slice a len cap] w fun e w' => AnyBool e ∧ w' = w := by
  obtain ⟨_, rfl | ⟨b, off, ss, rfl, hs⟩⟩ := h
  · exact bytesA_none x0 x1 x2 f hf a cap w
  · exact bytesA_any x0 x1 x2 f hf b off len cap ss w hs

theorem fit {w : World} {a : Option Addr} {len : Nat} (h : Sl w a len) (cap : Nat) (bd : Int) (h0 : -1 ≤ bd) (h1 : bd ≤ 1048576) :
    Calls Try.prog 13 #[.int .i64 bd, .slice a len cap] w fun e w' => AnyFit e ∧ w' = w := by
  obtain ⟨_, rfl | ⟨b, off, ss, rfl, hs⟩⟩ := h
  · exact fit_none bd h0 h1 a cap w
  · exact fit_any bd h0 h1 b off len cap ss w hs

theorem figures {w : World} {a : Option Addr} {len : Nat} (h : Sl w a len) (cap : Nat) :
    Calls Try.prog 14 #[.slice a len cap] w fun e w' => AnySlice e ∧ Below w.heap.size w w' := by
  obtain ⟨hr, rfl | ⟨b, off, ss, rfl, hs⟩⟩ := h
  · cases a with
    | none => exact figures_nil 0 cap w
    | some ad => exact figures_none ad cap w
  · exact figures_any b off len cap ss w hs hr

theorem zz_is (o : ByteArray) (fa : Option Addr) (fn fc : Nat) (h l : Int) (b : Nat) (f : ByteArray) (v p : Int) (w : World) (hh : Holds w b f v) (hf : f.size ≤ maxLen) (q : Bool) (hq : zz o.toList h l v p = q) :
    Calls Try.prog 17 #[.string o, .int .i64 p, .slice fa fn fc, .agg #[.int .u64 h, .int .u64 l], .map (some b), .string f] w fun e w' =>
      e = .returned (.bool q) ∧ Below w.heap.size w w' := by
  subst hq
  exact zz_any o fa fn fc h l b f v p w hh hf

/-- A map that holds one pair. -/
theorem one_pair (w : World) (f : ByteArray) (hf : f.size ≤ maxLen) (v : Int) (hv : (Lit.int .i64 v).wf = true) :
    ∃ w2, (Instr.mapUpdate 33 (.map (some w.heap.size)) (.string f) (.int .i64 v)).run Try.prog (w.alloc (.map #[] 0)) = .ok () w2 ∧ Holds w2 w.heap.size f v ∧ Below w.heap.size w w2 := by
  have hm := World.ownsMap_made (H := Unit) w Try.prog 31 (plainElem Try.prog 32)
  obtain ⟨w2, hrun, hown, hg⟩ := hm.update law31 Try.underlying33 (by unfold maxLen; omega) (WideMaps.keyOf_string_mk Try.underlying31 hf) (plainElem_int Try.underlying32 hv)
  refine ⟨w2, hrun, ⟨_, _, hown, ?_⟩, ?_⟩
  · exact atKey_put_same (k := .string f.data.toList) hm.isMap trivial _ _
  · exact ((Below.refl _ _).alloc (Nat.le_refl _) _).grown hg (by simp) (fun k hk => by cases hk; exact Nat.le_refl _)
end Go.Proofs.Qxb6608540a
