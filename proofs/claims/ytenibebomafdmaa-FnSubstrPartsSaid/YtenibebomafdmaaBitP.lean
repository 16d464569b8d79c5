/- Plain facts on the bits of int64: integers of less than 2 to the power of 52. -/
import Derived.Laws.BitsLemmas
import Derived.Laws.BitsAllLaws
namespace Go.Proofs.Ytenibebomafdmaa.BitP

def Rng (a : Int) : Prop := -4503599627370496 ≤ a ∧ a < 4503599627370496
def B53 (a : Int) : BitVec 53 := BitVec.ofInt 53 a

theorem B53_toInt {a : Int} (h : Rng a) : (B53 a).toInt = a := by
  unfold B53
  rw [BitVec.toInt_ofInt]
  have := h.1; have := h.2
  apply Int.bmod_eq_of_le <;> simp <;> omega
theorem toInt_B53 (z : BitVec 53) : B53 z.toInt = z := by unfold B53; exact BitVec.ofInt_toInt
theorem rng_toInt (z : BitVec 53) : Rng z.toInt := by
  have h1 := BitVec.two_mul_toInt_lt (x := z)
  have h2 := BitVec.le_two_mul_toInt (x := z)
  simp at h1 h2
  exact ⟨by omega, by omega⟩

theorem wrap_toNat (x : BitVec 64) : IntKind.i64.wrap (x.toNat : Int) = x.toInt := by
  rw [IntKind.wrap_i64, BitVec.toInt_eq_toNat_cond]
  have := x.isLt
  split <;> omega

theorem ofInt64 {a : Int} (h : Rng a) : BitVec.ofInt 64 a = (B53 a).signExtend 64 := by
  rw [BitVec.signExtend, B53_toInt h]

theorem and_eq {a b : Int} (ha : Rng a) (hb : Rng b) : bits .and .i64 a b = (B53 a &&& B53 b).toInt := by
  show IntKind.i64.wrap ((BitVec.ofInt 64 a &&& BitVec.ofInt 64 b).toNat : Int) = _
  rw [wrap_toNat, ofInt64 ha, ofInt64 hb, ← BitVec.signExtend_and, BitVec.toInt_signExtend_of_le (by decide)]
theorem or_eq {a b : Int} (ha : Rng a) (hb : Rng b) : bits .or .i64 a b = (B53 a ||| B53 b).toInt := by
  show IntKind.i64.wrap ((BitVec.ofInt 64 a ||| BitVec.ofInt 64 b).toNat : Int) = _
  rw [wrap_toNat, ofInt64 ha, ofInt64 hb, ← BitVec.signExtend_or, BitVec.toInt_signExtend_of_le (by decide)]
theorem xor_eq {a b : Int} (ha : Rng a) (hb : Rng b) : bits .xor .i64 a b = (B53 a ^^^ B53 b).toInt := by
  show IntKind.i64.wrap ((BitVec.ofInt 64 a ^^^ BitVec.ofInt 64 b).toNat : Int) = _
  rw [wrap_toNat, ofInt64 ha, ofInt64 hb, ← BitVec.signExtend_xor, BitVec.toInt_signExtend_of_le (by decide)]

theorem and_rng {a b : Int} (ha : Rng a) (hb : Rng b) : Rng (bits .and .i64 a b) := by rw [and_eq ha hb]; exact rng_toInt _
theorem or_rng {a b : Int} (ha : Rng a) (hb : Rng b) : Rng (bits .or .i64 a b) := by rw [or_eq ha hb]; exact rng_toInt _
theorem xor_rng {a b : Int} (ha : Rng a) (hb : Rng b) : Rng (bits .xor .i64 a b) := by rw [xor_eq ha hb]; exact rng_toInt _
theorem m1 : Rng (-1) := ⟨by decide, by decide⟩
theorem not_rng {a : Int} (ha : Rng a) : Rng (bits .xor .i64 (-1) a) := xor_rng m1 ha

/-- x ^ y is x | y without x & y. -/
theorem or_sub {a b : Int} (ha : Rng a) (hb : Rng b) : bits .or .i64 a b - bits .and .i64 a b = bits .xor .i64 a b := by
  have h1 := and_rng ha hb
  have h2 := or_rng ha hb
  have h3 := xor_rng ha hb
  rw [and_eq ha hb] at h1 ⊢
  rw [or_eq ha hb] at h2 ⊢
  rw [xor_eq ha hb] at h3 ⊢
  generalize B53 a = X at *
  generalize B53 b = Y at *
  have hz : (X &&& Y) &&& (X ^^^ Y) = 0#53 := by
    ext i hi
    simp only [BitVec.getElem_and, BitVec.getElem_xor, BitVec.getElem_zero]
    cases X[i] <;> cases Y[i] <;> rfl
  have ho : (X &&& Y) ||| (X ^^^ Y) = X ||| Y := by
    ext i hi
    simp only [BitVec.getElem_and, BitVec.getElem_xor, BitVec.getElem_or]
    cases X[i] <;> cases Y[i] <;> rfl
  have hs := BitVec.add_eq_or_of_and_eq_zero ((X &&& Y).signExtend 64) ((X ^^^ Y).signExtend 64) (by rw [← BitVec.signExtend_and, hz]; decide)
  rw [← BitVec.signExtend_or, ho] at hs
  have hi := congrArg BitVec.toInt hs
  rw [BitVec.toInt_add, BitVec.toInt_signExtend_of_le (by decide), BitVec.toInt_signExtend_of_le (by decide), BitVec.toInt_signExtend_of_le (by decide)] at hi
  have := h1.1; have := h1.2; have := h3.1; have := h3.2
  generalize (X &&& Y).toInt = c at *
  generalize (X ^^^ Y).toInt = d at *
  rw [Int.bmod_eq_of_le (by simp; omega) (by simp; omega)] at hi
  omega

theorem xor_back {a b : Int} (ha : Rng a) (hb : Rng b) : bits .xor .i64 (bits .xor .i64 a b) b = a := by
  rw [xor_eq (xor_rng ha hb) hb, xor_eq ha hb, toInt_B53, BitVec.xor_assoc, BitVec.xor_self, BitVec.xor_zero, B53_toInt ha]

theorem m1_eq : B53 (-1) = BitVec.allOnes 53 := by decide
theorem not_eq {a : Int} (ha : Rng a) : bits .xor .i64 (-1) a = (~~~ B53 a).toInt := by
  rw [xor_eq m1 ha, m1_eq, BitVec.allOnes_xor]
theorem not_not {a : Int} (ha : Rng a) : bits .xor .i64 (-1) (bits .xor .i64 (-1) a) = a := by
  rw [not_eq (not_rng ha), not_eq ha, toInt_B53, BitVec.not_not, B53_toInt ha]
theorem nand_nor {a b : Int} (ha : Rng a) (hb : Rng b) : bits .xor .i64 (-1) (bits .and .i64 a b) = bits .or .i64 (bits .xor .i64 (-1) a) (bits .xor .i64 (-1) b) := by
  rw [not_eq (and_rng ha hb), or_eq (not_rng ha) (not_rng hb), not_eq ha, not_eq hb, and_eq ha hb, toInt_B53, toInt_B53, toInt_B53, BitVec.not_and]
end Go.Proofs.Ytenibebomafdmaa.BitP
