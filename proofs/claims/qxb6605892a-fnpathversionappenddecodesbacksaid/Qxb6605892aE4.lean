/- What the law's walk uses: copies, rows that are owned, and the layout of what Append writes. -/
import Derived.Test.Qxb6605892aE3
namespace Go.Proofs.Qxb6605892a
open Go.RowKit

theorem own_bounds {w : World} {base : Nat} {v : Value} {n : Nat} {xs : List Value} (h : w.ownsRow base 5 1 v n xs) (k : Nat) (hk : v.ownBlock = some k) : base ≤ k ∧ k < w.heap.size := by
  rcases h.2 with ⟨rfl, _⟩ | ⟨g, cap, cur, rfl, hb, hg, _⟩
  · cases hk
  · have e : g = k := by simpa [Value.ownBlock] using hk
    subst e
    exact ⟨hb, (Array.getElem?_eq_some_iff.1 hg).1⟩

theorem own_below {w w' : World} {base : Nat} {v : Value} {n : Nat} {xs : List Value} (h : w.ownsRow base 5 1 v n xs) (hb : Below w.heap.size w w') : w'.ownsRow base 5 1 v n xs := by
  refine ⟨h.1, ?_⟩
  rcases h.2 with h1 | ⟨g, cap, cur, rfl, hbg, hg, r⟩
  · exact .inl h1
  · exact .inr ⟨g, cap, cur, rfl, hbg, (hb.block g (Array.getElem?_eq_some_iff.1 hg).1).trans hg, r⟩

/-- What zzClone comes to. -/
def CloneOut (w : World) (zs : List Int) (n : Nat) (e : Ending) (w' : World) : Prop :=
  ∃ (a : Option Addr) (c : Nat), e = .returned (.slice a n c) ∧ w'.ownsRow w.heap.size 5 1 (.slice a n c) n (cellsOf zs) ∧
    (n = 0 ∨ ∃ O, a = some ⟨O, 0, none⟩ ∧ w.heap.size ≤ O ∧ O < w'.heap.size ∧ ∀ j, j < n → w'.cell? ⟨O, j, none⟩ = some (.int .u8 (zs.getD j 0))) ∧ Below w.heap.size w w'

theorem cells_list (zs : List Int) (c : Array Value) (hs : c.size = zs.length) (hc : ∀ i, i < zs.length → c[i]? = some (.int .u8 (zs.getD i 0))) : c.toList = cellsOf zs := by
  apply List.ext_getElem?
  intro i
  by_cases hi : i < zs.length
  · have := hc i hi
    rw [Array.getElem?_toList, this, cellsOf, List.getElem?_map, List.getElem?_eq_getElem hi, List.getD_eq_getElem?_getD, List.getElem?_eq_getElem hi]
    rfl
  · rw [List.getElem?_eq_none (by simpa [hs] using hi), List.getElem?_eq_none (by simpa [cellsOf] using hi)]

theorem clone_out {w : World} {a : Option Addr} {zs : List Int} (n : Nat) (hn : n = zs.length) (h : Bs w a zs) (hz : n ≤ 1048576) (cap : Nat) : Calls Try.prog 11 #[.slice a n cap] w fun e w' => CloneOut w zs n e w' := by
  subst hn
  refine (clone_any h (by omega) cap).mono ?_
  rintro e w' ⟨hb, ⟨rfl, rfl, rfl⟩ | ⟨rfl, hsz, hrow⟩⟩
  · exact ⟨none, 0, rfl, World.ownsRow_nil _ _ _ _, .inl rfl, hb⟩
  · have hrow' := hrow
    obtain ⟨c, hc, hcs, hci⟩ := hrow
    refine ⟨_, _, rfl, ⟨by simp [cellsOf], .inr ⟨w.heap.size, zs.length, c, rfl, Nat.le_refl _, hc, Nat.le_refl _, by unfold maxLen; omega, by omega, ?_⟩⟩, .inr ⟨w.heap.size, rfl, Nat.le_refl _, by omega, fun j hj => hrow'.cell hj⟩, hb⟩
    rw [Nat.mul_one, ← hcs, ← Array.length_toList, List.take_length]
    exact cells_list zs c hcs hci

theorem hasPrefix_any (g N cap n c : Nat) (a : Option Addr) (hN : N ≤ 100000000) (hn : n ≤ N) (zs : List Int) (w : World) (h1 : ∀ j, j < n → w.cell? ⟨g, j, none⟩ = some (.int .u8 (zs.getD j 0)))
    (h2 : n = 0 ∨ ∃ O, a = some ⟨O, 0, none⟩ ∧ ∀ j, j < n → w.cell? ⟨O, j, none⟩ = some (.int .u8 (zs.getD j 0))) :
    Calls Try.prog 14 #[.slice (some ⟨g, 0, none⟩) N cap, .slice a n c] w fun e w' => e = .returned (.bool true) ∧ ∃ q, w' = w.drewN q := by
  rcases h2 with rfl | ⟨O, rfl, h2⟩
  · exact hasPrefix_none g N cap c a w
  · exact hasPrefix_some g N cap O n c hN hn zs w h1 h2

/-- What Append writes behind b. -/
def news (s : ByteArray) (x : Int) : List Value := (cellsOf (be32 s.size) ++ Lib.strCells s) ++ cellsOf (be32 x)

theorem news_length (s : ByteArray) (x : Int) : (news s x).length = 8 + s.size := by
  simp [news, cellsOf, be32, Lib.strCells_length]
  omega

theorem at_front (zs : List Int) (r : List Value) (j : Nat) (hj : j < zs.length) : (cellsOf zs ++ r)[j]? = some (.int .u8 (zs.getD j 0)) := by
  rw [List.getElem?_append_left (by simpa [cellsOf] using hj), cellsOf, List.getElem?_map, List.getElem?_eq_getElem hj, List.getD_eq_getElem?_getD, List.getElem?_eq_getElem hj]
  rfl

theorem at_news (zs : List Int) (r : List Value) (j : Nat) : (cellsOf zs ++ r)[zs.length + j]? = r[j]? := by
  rw [List.getElem?_append_right (by simp [cellsOf])]
  congr 1
  simp [cellsOf]

theorem news_len (s : ByteArray) (x : Int) : (news s x)[0]? = some (.int .u8 ((s.size : Int) / 16777216 % 256)) ∧ (news s x)[1]? = some (.int .u8 ((s.size : Int) / 65536 % 256)) ∧
    (news s x)[2]? = some (.int .u8 ((s.size : Int) / 256 % 256)) ∧ (news s x)[3]? = some (.int .u8 ((s.size : Int) % 256)) := by
  simp [news, cellsOf, be32]

theorem news_str (s : ByteArray) (x : Int) (j : Nat) (h : j < s.size) : (news s x)[4 + j]? = some (.int .u8 (s[j].toNat : Int)) := by
  have e : news s x = cellsOf (be32 s.size) ++ (Lib.strCells s ++ cellsOf (be32 x)) := by simp [news]
  rw [e]
  have := at_news (be32 s.size) (Lib.strCells s ++ cellsOf (be32 x)) j
  have h4 : (be32 (s.size : Int)).length = 4 := rfl
  rw [h4] at this
  rw [this, List.getElem?_append_left (by rw [Lib.strCells_length]; exact h)]
  exact str_at s j h

theorem news_ver (s : ByteArray) (x : Int) (i : Nat) : (news s x)[4 + s.size + i]? = (cellsOf (be32 x))[i]? := by
  have e : (cellsOf (be32 s.size) ++ Lib.strCells s).length = 4 + s.size := by simp [cellsOf, be32, Lib.strCells_length]; omega
  unfold news
  rw [List.getElem?_append_right (by omega), e]
  congr 1
  omega

theorem add0 (g j : Nat) : (⟨g, 0, none⟩ : Addr).add j = ⟨g, j, none⟩ := by
  unfold Addr.add; split <;> simp_all

/-- Where everything lies in what Append gives. -/
theorem layout {w : World} {base g N cap n : Nat} {zs : List Int} (hn : n = zs.length) {s : ByteArray} {x : Int} (h : w.ownsRow base 5 1 (.slice (some ⟨g, 0, none⟩) N cap) N (cellsOf zs ++ news s x)) :
    (∀ j, j < n → w.cell? ⟨g, j, none⟩ = some (.int .u8 (zs.getD j 0))) ∧
    (w.cell? ⟨g, n, none⟩ = some (.int .u8 ((s.size : Int) / 16777216 % 256)) ∧ w.cell? ⟨g, n + 1, none⟩ = some (.int .u8 ((s.size : Int) / 65536 % 256)) ∧ w.cell? ⟨g, n + 2, none⟩ = some (.int .u8 ((s.size : Int) / 256 % 256)) ∧ w.cell? ⟨g, n + 3, none⟩ = some (.int .u8 ((s.size : Int) % 256))) ∧
    (∀ j (hj : j < s.size), w.cell? ⟨g, n + 4 + j, none⟩ = some (.int .u8 (s[j].toNat : Int))) ∧
    (w.cell? ⟨g, n + 4 + s.size, none⟩ = some (.int .u8 (x / 16777216 % 256)) ∧ w.cell? ⟨g, n + 4 + s.size + 1, none⟩ = some (.int .u8 (x / 65536 % 256)) ∧ w.cell? ⟨g, n + 4 + s.size + 2, none⟩ = some (.int .u8 (x / 256 % 256)) ∧ w.cell? ⟨g, n + 4 + s.size + 3, none⟩ = some (.int .u8 (x % 256))) := by
  have hc : ∀ j u, (cellsOf zs ++ news s x)[j]? = some u → w.cell? ⟨g, j, none⟩ = some u := fun j u hu => by
    rw [← add0]
    exact h.cells (g := g) rfl j u hu
  have hd : ∀ j u, (news s x)[j]? = some u → w.cell? ⟨g, n + j, none⟩ = some u := fun j u hu => hc _ u (by rw [hn, at_news]; exact hu)
  obtain ⟨n0, n1, n2, n3⟩ := news_len s x
  refine ⟨fun j hj => hc j _ (at_front zs _ j (by omega)), ⟨hd 0 _ n0, hd 1 _ n1, hd 2 _ n2, hd 3 _ n3⟩, fun j hj => ?_, ?_, ?_, ?_, ?_⟩
  · rw [Nat.add_assoc]
    exact hd (4 + j) _ (news_str s x j hj)
  · have := hd (4 + s.size + 0) _ ((news_ver s x 0).trans rfl)
    rw [show n + 4 + s.size = n + (4 + s.size + 0) from by omega]
    exact this
  · have := hd (4 + s.size + 1) _ ((news_ver s x 1).trans rfl)
    rw [show n + 4 + s.size + 1 = n + (4 + s.size + 1) from by omega]
    exact this
  · have := hd (4 + s.size + 2) _ ((news_ver s x 2).trans rfl)
    rw [show n + 4 + s.size + 2 = n + (4 + s.size + 2) from by omega]
    exact this
  · have := hd (4 + s.size + 3) _ ((news_ver s x 3).trans rfl)
    rw [show n + 4 + s.size + 3 = n + (4 + s.size + 3) from by omega]
    exact this
end Go.Proofs.Qxb6605892a
