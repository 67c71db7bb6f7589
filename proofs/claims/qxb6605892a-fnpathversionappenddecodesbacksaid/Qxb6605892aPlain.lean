/- Four bytes of a word, and back: no Go in sight. -/
import Derived.Laws.BitsAllLaws
namespace Go.Proofs.Qxb6605892a

/-- The four bytes of a word, the highest first. -/
def be32 (x : Int) : List Int := [x / 16777216 % 256, x / 65536 % 256, x / 256 % 256, x % 256]

/-- Four bytes read as a word, as the text reckons it. -/
def rdW (a b c d : Int) : Int :=
  bits .or .u32 (bits .or .u32 (bits .or .u32 (a % 4294967296 * 16777216 % 4294967296) (b % 4294967296 * 65536 % 4294967296)) (c % 4294967296 * 256 % 4294967296)) (d % 4294967296)

theorem or_join (i : Nat) (x y : Int) (hx0 : 0 ≤ x) (hx1 : x < 4294967296) (hy0 : 0 ≤ y) (hy1 : y < 4294967296) (hd : x.toNat % 2 ^ i = 0) (hy : y.toNat < 2 ^ i) : bits .or .u32 x y = x + y := by
  rw [u32_or x y hx0 hx1 hy0 hy1, nat_join i x.toNat y.toNat hd hy]
  omega

theorem rdW_eq (a b c d : Int) (ha : 0 ≤ a ∧ a < 256) (hb : 0 ≤ b ∧ b < 256) (hc : 0 ≤ c ∧ c < 256) (hd : 0 ≤ d ∧ d < 256) : rdW a b c d = a * 16777216 + b * 65536 + c * 256 + d := by
  unfold rdW
  have e1 : a % 4294967296 * 16777216 % 4294967296 = a * 16777216 := by omega
  have e2 : b % 4294967296 * 65536 % 4294967296 = b * 65536 := by omega
  have e3 : c % 4294967296 * 256 % 4294967296 = c * 256 := by omega
  have e4 : d % 4294967296 = d := by omega
  rw [e1, e2, e3, e4]
  rw [or_join 24 (a * 16777216) (b * 65536) (by omega) (by omega) (by omega) (by omega) (by simp; omega) (by simp; omega)]
  rw [or_join 16 _ (c * 256) (by omega) (by omega) (by omega) (by omega) (by simp; omega) (by simp; omega)]
  rw [or_join 8 _ d (by omega) (by omega) (by omega) (by omega) (by simp; omega) (by simp; omega)]

theorem rdW_be (x : Int) (h0 : 0 ≤ x) (h1 : x < 4294967296) : rdW (x / 16777216 % 256) (x / 65536 % 256) (x / 256 % 256) (x % 256) = x := by
  rw [rdW_eq _ _ _ _ (by omega) (by omega) (by omega) (by omega)]
  omega

end Go.Proofs.Qxb6605892a
