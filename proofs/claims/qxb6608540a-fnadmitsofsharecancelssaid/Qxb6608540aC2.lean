/- The contracts of the bound's own functions: a map is read. -/
import Derived.Test.Qxb6608540aC1
import Derived.Maps.Own
import Derived.Maps.OwnSet
import Derived.Maps.Views
import Derived.Deep.RegionHeld3
import Derived.WalkSmall
namespace Go.Proofs.Qxb6608540a
open Go.RowKit Go.Maps

theorem law31 : Keyed Try.prog 31 := string_keyed Try.underlying31
theorem zero32 (w : World) : (zeroValue 32).run Try.prog w = .ok (.int .i64 0) w := by kernel_rfl

/-- The map at block b, read at f, holds v (0 where f is absent). -/
def Holds (w : World) (b : Nat) (f : ByteArray) (v : Int) : Prop :=
  ∃ (n : Nat) (D : DataW Unit), w.ownsMap Try.prog 31 (plainElem Try.prog 32) b n D ∧ D.atKey (.string f.data.toList) (.lit (.int .i64 0)) = .lit (.int .i64 v)

theorem Holds.run {w : World} {b : Nat} {f : ByteArray} {v : Int} (h : Holds w b f v) (hf : f.size ≤ maxLen) :
    (Instr.lookup 33 (.map (some b)) (.string f) false).run Try.prog w = .ok (.int .i64 v) w := by
  obtain ⟨n, D, hown, hat⟩ := h
  obtain ⟨c, hrun, hc, _⟩ := hown.lookup_int law31 Try.underlying33 Try.underlying32 (zero32 w) (WideMaps.keyOf_string_mk Try.underlying31 hf)
  rw [hat] at hc
  injection hc with hc
  injection hc with _ hc
  rw [hrun, hc]

theorem Holds.lt {w : World} {b : Nat} {f : ByteArray} {v : Int} (h : Holds w b f v) : b < w.heap.size := by
  obtain ⟨n, D, hown, _⟩ := h
  exact hown.lt

theorem Holds.below {w w' : World} {b : Nat} {f : ByteArray} {v : Int} (h : Holds w b f v) (hb : Below w.heap.size w w') : Holds w' b f v := by
  have hlt := h.lt
  obtain ⟨n, D, ⟨es, clock, hes, r⟩, hat⟩ := h
  exact ⟨n, D, ⟨es, clock, (hb.block b hlt).trans hes, r⟩, hat⟩

theorem Holds.alloc {w : World} {b : Nat} {f : ByteArray} {v : Int} (h : Holds w b f v) (o : Obj) : Holds (w.alloc o) b f v := by
  obtain ⟨n, D, hown, hat⟩ := h
  exact ⟨n, D, hown.alloc o, hat⟩

theorem Holds.drew {w : World} {b : Nat} {f : ByteArray} {v : Int} (h : Holds w b f v) : Holds w.drew b f v := h
theorem Holds.drewN {w : World} {b : Nat} {f : ByteArray} {v : Int} (h : Holds w b f v) (n : Nat) : Holds (w.drewN n) b f v := h

theorem bcell {W w1 : World} (hb : Below W.heap.size W w1) : (∀ b o, b < W.heap.size → w1.cell? ⟨b, o, none⟩ = W.cell? ⟨b, o, none⟩) ∧ (∀ b o, b < W.heap.size → w1.frozen? ⟨b, o, none⟩ = W.frozen? ⟨b, o, none⟩) :=
  ⟨fun b o h => hb.cell (p := ⟨b, o, none⟩) h, fun b o h => hb.frozen (p := ⟨b, o, none⟩) h⟩

theorem base_any (h l : Int) (b : Nat) (f : ByteArray) (v : Int) (w : World) (hh : Holds w b f v) (hf : f.size ≤ maxLen) :
    Calls Try.prog 35 #[.agg #[.int .u64 h, .int .u64 l, .map (some b)], .string f] w fun e w' =>
      e = .returned (.int .i64 (absW v)) ∧ ∃ c : Array Value, w' = w.alloc (.cells c 65) := by
  have hl := fun o => (hh.alloc o).run hf
  go_enter Try.func35, Try.ntmps35
  go_wp2_with (go_at_call 23; refine (abs_any _ _).mono ?_; rintro e w' ⟨rfl, rfl⟩)
  go_ret
  exact ⟨rfl, _, rfl⟩

theorem against_any (h l : Int) (b : Nat) (f : ByteArray) (v p : Int) (w : World) (hh : Holds w b f v) (hf : f.size ≤ maxLen) :
    Calls Try.prog 31 #[.agg #[.int .u64 h, .int .u64 l, .map (some b)], .int .i64 p, .string f] w fun e w' =>
      e = .returned (.int .i64 (cmpE h l (hiOf (prod (absW v) p)) (loOf (prod (absW v) p)))) ∧ Below w.heap.size w w' := by
  go_enter Try.func31, Try.ntmps31
  go_wp2
  go_region_held3 (fun w' => w'.cell? ⟨w.heap.size, 0, none⟩ = some (.int .u64 h) ∧ w'.cell? ⟨w.heap.size, 1, none⟩ = some (.int .u64 l) ∧ w'.cell? ⟨w.heap.size, 2, none⟩ = some (.map (some b))) (simp [go_sem, World.cell?_alloc_past])
    (first
      | (go_at_call 35; refine (base_any _ _ _ _ v _ (by repeat (first | exact hh | apply Holds.alloc | apply Holds.drew)) hf).mono ?_; rintro e w' ⟨rfl, o1, rfl⟩)
      | (go_at_call 15; refine (share_any _ _ _).mono ?_; rintro e w' ⟨rfl, o1, rfl⟩)
      | (go_at_call 34; refine (compare_any _ _ _ _ _).mono ?_; rintro e w' ⟨rfl, o1, o2, rfl⟩))
  go_wp2
  go_ret
  exact ⟨rfl, by repeat (first | exact Below.refl _ _ | apply Below.drew | (refine Below.alloc ?_ (by simp <;> omega) _))⟩

/-- The name by which admitsOf calls its position's method: read off the program's own text. -/
def calleeName : Option Code → String
  | some (.seq _ (.seq (.region _ ⟨_ :: _ :: _ :: _ :: _ :: _ :: o :: _⟩ _) _)) => match o.op with
    | .call ⟨.invoke _ s, _, _⟩ => s
    | _ => ""
  | _ => ""

theorem method_against (h l : Int) (b : Nat) (w : World) :
    (method 198 65 (.agg #[.int .u64 h, .int .u64 l, .map (some b)]) (calleeName Try.f29.body)).run Try.prog w = .ok (31, .agg #[.int .u64 h, .int .u64 l, .map (some b)]) w := by kernel_rfl

theorem admitsOf_any (o : ByteArray) (fa : Option Addr) (fn fc : Nat) (h l : Int) (b : Nat) (f : ByteArray) (v p : Int) (w : World) (hh : Holds w b f v) (hf : f.size ≤ maxLen) :
    Calls Try.prog 29 #[.agg #[.string o, .int .i64 p, .slice fa fn fc], .iface 65 (.agg #[.int .u64 h, .int .u64 l, .map (some b)]), .string f] w fun e w' =>
      e = .returned (.bool (meets o.toList (cmpE h l (hiOf (prod (absW v) p)) (loOf (prod (absW v) p))))) ∧ Below w.heap.size w w' := by
  have hm := method_against h l b
  simp only [calleeName, Try.f29] at hm
  go_enter Try.func29, Try.ntmps29
  go_wp2
  go_region_held3 (fun w' => w'.cell? ⟨w.heap.size, 0, none⟩ = some (.string o) ∧ w'.cell? ⟨w.heap.size, 1, none⟩ = some (.int .i64 p)) (simp [go_sem, *])
    (first
      | (go_at_call 31; refine (against_any _ _ _ _ v _ _ (by repeat (first | exact hh | apply Holds.alloc | apply Holds.drew)) hf).mono ?_; rintro e w' ⟨rfl, hb1⟩; obtain ⟨hc1, hf1⟩ := bcell hb1)
      | (go_at_call 33; refine (admits_any _ _ _).mono ?_; rintro e w' ⟨rfl, rfl⟩))
  go_wp2
  go_ret
  exact ⟨rfl, (((Below.refl _ _).alloc (Nat.le_refl _) _).drew).trans (hb1.mono (by simp))⟩

/-- What the bound answers. -/
def zz (o : List UInt8) (h l v p : Int) : Bool := meets o (cmpE h l (hiOf (prod (absW v) p)) (loOf (prod (absW v) p)))

theorem zz_any (o : ByteArray) (fa : Option Addr) (fn fc : Nat) (h l : Int) (b : Nat) (f : ByteArray) (v p : Int) (w : World) (hh : Holds w b f v) (hf : f.size ≤ maxLen) :
    Calls Try.prog 17 #[.string o, .int .i64 p, .slice fa fn fc, .agg #[.int .u64 h, .int .u64 l], .map (some b), .string f] w fun e w' =>
      e = .returned (.bool (zz o.toList h l v p)) ∧ Below w.heap.size w w' := by
  unfold zz
  go_enter Try.func17, Try.ntmps17
  go_wp2_with (go_at_call 29; refine (admitsOf_any _ _ _ _ _ _ _ _ v _ _ (hh.alloc _) hf).mono ?_; rintro e w' ⟨rfl, hb1⟩)
  go_ret
  exact ⟨rfl, ((Below.refl _ _).alloc (Nat.le_refl _) _).trans (hb1.mono (by simp))⟩
end Go.Proofs.Qxb6608540a
