/- Any int64's word is finite; which words are in range for an operation on bits; the errors' road: getCurrentStackTrace, makeRuntimeError, numOf and number of an error. -/
import Derived.Test.YtenibebomafdmaaBwC
import Derived.Test.YtenibebomafdmaaWhole
namespace Go.Proofs.Ytenibebomafdmaa
open Go.RowKit Val

theorem cut_le (way : Ieee.Toward) (neg : Bool) (n d : Nat) (hd : d ≤ n.log2) : way.cut neg n d ≤ n / 2 ^ d + 1 := by
  unfold Ieee.Toward.cut
  have hgap : (1 : Nat) <<< min d (n.log2 + 2) = 2 ^ d := by rw [Nat.min_eq_left (by omega), Nat.shiftLeft_eq, Nat.one_mul]
  simp only [hgap]
  have : ∀ b : Bool, b.toNat ≤ 1 := by intro b; cases b <;> simp
  exact Nat.add_le_add_left (this _) _

theorem nearest_fin (neg : Bool) (mag : Nat) (h : mag < 18446744073709551616) : ∃ V, val (Ieee.double.nearest neg mag 0) = some V := by
  rcases Nat.eq_zero_or_pos mag with rfl | hm0
  · exact ⟨_, nearest_int neg 0 0 0 (by omega) (by omega) (by omega) (by rw [Nat.zero_mul, Nat.zero_mul])⟩
  · have hL1 : 2 ^ mag.log2 ≤ mag := Nat.log2_self_le (by omega)
    have hL2 : mag < 2 ^ (mag.log2 + 1) := Nat.lt_log2_self
    have hL3 : mag.log2 ≤ 63 := by
      have : mag.log2 < 64 := (Nat.log2_lt (by omega)).2 (by simpa using h)
      omega
    have hmax : max ((0 : Int) + (mag.log2 : Int) - 52) (-1074) = (mag.log2 : Int) - 52 := by omega
    rw [nearest_eq _ _ _ (by omega), hmax]
    have hkept : Ieee.Toward.even.cut neg (mag <<< ((0 : Int) - ((mag.log2 : Int) - 52)).toNat) ((mag.log2 : Int) - 52 - 0).toNat ≤ 9007199254740992 := by
      rw [Nat.shiftLeft_eq]
      rcases Nat.le_total mag.log2 52 with hl | hl
      · have z : ((mag.log2 : Int) - 52 - 0).toNat = 0 := by omega
        have y : ((0 : Int) - ((mag.log2 : Int) - 52)).toNat = 52 - mag.log2 := by omega
        rw [z, y]
        have h1 := cut_le .even neg (mag * 2 ^ (52 - mag.log2)) 0 (by omega)
        rw [Nat.pow_zero, Nat.div_one] at h1
        have h2 : mag * 2 ^ (52 - mag.log2) < 9007199254740992 := by
          calc mag * 2 ^ (52 - mag.log2) < 2 ^ (mag.log2 + 1) * 2 ^ (52 - mag.log2) := Nat.mul_lt_mul_of_pos_right hL2 (Nat.two_pow_pos _)
            _ = 9007199254740992 := by rw [← Nat.pow_add, show mag.log2 + 1 + (52 - mag.log2) = 53 by omega]
        omega
      · have z : ((mag.log2 : Int) - 52 - 0).toNat = mag.log2 - 52 := by omega
        have y : ((0 : Int) - ((mag.log2 : Int) - 52)).toNat = 0 := by omega
        rw [z, y, Nat.pow_zero, Nat.mul_one]
        have h1 := cut_le .even neg mag (mag.log2 - 52) (by omega)
        have h2 : mag / 2 ^ (mag.log2 - 52) < 9007199254740992 := by
          rw [Nat.div_lt_iff_lt_mul (Nat.two_pow_pos _)]
          calc mag < 2 ^ (mag.log2 + 1) := hL2
            _ = 9007199254740992 * 2 ^ (mag.log2 - 52) := by rw [show mag.log2 + 1 = 53 + (mag.log2 - 52) by omega, Nat.pow_add, two53]
        omega
    generalize Ieee.Toward.even.cut neg (mag <<< ((0 : Int) - ((mag.log2 : Int) - 52)).toNat) ((mag.log2 : Int) - 52 - 0).toNat = kept at *
    obtain ⟨u, hu⟩ : ∃ u : Nat, ((mag.log2 : Int) - 52 - -1074).toNat = u := ⟨_, rfl⟩
    have hu2 : u ≤ 1085 := by omega
    rw [hu, Nat.min_eq_left (by omega)]
    unfold val
    rw [read_word _ _ (by omega)]
    by_cases c1 : u * 4503599627370496 + kept < 4503599627370496
    · rw [if_pos c1]; exact ⟨_, rfl⟩
    · rw [if_neg c1, if_pos (by omega)]; exact ⟨_, rfl⟩

theorem intW_fin (n : Int) (h : n.natAbs < 18446744073709551616) : ∃ V, val (intW n) = some V := nearest_fin (decide (n < 0)) n.natAbs h
theorem wrap_abs (n : Int) : (IntKind.i64.wrap n).natAbs < 18446744073709551616 := by rw [IntKind.wrap_i64]; omega
theorem bits_fin (op : BinOp) (a b : Int) : ∃ V, val (intW (bits op .i64 a b)) = some V := intW_fin _ (wrap_abs _)

inductive Range (x : Nat) : Prop where
  | low (h : FloatKind.f64.format.order x 14069245235905429503 = some Ordering.lt)
  | high (h0 : ¬ FloatKind.f64.format.order x 14069245235905429503 = some Ordering.lt) (h : (FloatKind.f64.format.order x 4845873199050653695 == some Ordering.gt) = true)
  | num (a : Int) (h : InR x a)
  | nan (h0 : ¬ FloatKind.f64.format.order x 14069245235905429503 = some Ordering.lt) (h1 : (FloatKind.f64.format.order x 4845873199050653695 == some Ordering.gt) = false) (s : Bool) (t : Nat) (h : Ieee.double.read x = .nan s t)

theorem range_all (x : Nat) : Range x := by
  by_cases h0 : FloatKind.f64.format.order x 14069245235905429503 = some Ordering.lt
  · exact .low h0
  · cases h1 : (FloatKind.f64.format.order x 4845873199050653695 == some Ordering.gt) with
    | true => exact .high h0 h1
    | false =>
      have c1 : val 14069245235905429503 = some (-9007199254740991 * (one : Int)) := by rw [show (14069245235905429503 : Nat) = intW (-9007199254740991) by decide]; exact val_intW _ (by decide)
      have c2 : val 4845873199050653695 = some (9007199254740991 * (one : Int)) := by rw [show (4845873199050653695 : Nat) = intW 9007199254740991 by decide]; exact val_intW _ (by decide)
      cases hv : val x with
      | some V =>
        have o1 : FloatKind.f64.format.order x 14069245235905429503 = _ := order_val hv c1
        have o2 : FloatKind.f64.format.order x 4845873199050653695 = _ := order_val hv c2
        have k0 := h0
        have k1 := h1
        rw [o1] at k0
        rw [o2] at k1
        simp only [compare, compareOfLessAndEq, Option.some.injEq] at k0
        have l1 : ¬ V < -9007199254740991 * (one : Int) := fun h => k0 (by rw [if_pos h])
        have l2 : V ≤ 9007199254740991 * (one : Int) := by
          simp only [compare, compareOfLessAndEq] at k1
          by_cases c : V < 9007199254740991 * (one : Int)
          · omega
          · rw [if_neg c] at k1
            by_cases c' : V = 9007199254740991 * (one : Int)
            · omega
            · rw [if_neg c'] at k1; cases k1
        have hp : (0 : Int) < one := by have := one_pos; omega
        have ht := tdiv_small (V := V) (by omega) (by omega)
        refine .num (V.tdiv one) ⟨h0, h1, ?_⟩
        have := toInt_val hv
        unfold floatToIntVal
        rw [show FloatKind.f64.decode x = Ieee.double.read x from rfl, this]
        simp only []
        have b1 : IntKind.i64.min ≤ V.tdiv one := by have : IntKind.i64.min = -9223372036854775808 := rfl; omega
        have b2 : V.tdiv one ≤ IntKind.i64.max := by have : IntKind.i64.max = 9223372036854775807 := rfl; omega
        rw [if_pos ⟨b1, b2⟩]
      | none =>
        cases hr : Ieee.double.read x with
        | nan s t => exact .nan h0 h1 s t hr
        | number s m i => unfold val at hv; rw [hr] at hv; cases hv
        | infinity s =>
          exfalso
          have r1 : ∃ t n j, Ieee.double.read 14069245235905429503 = .number t n j := by
            unfold val at c1
            cases hc : Ieee.double.read 14069245235905429503 with
            | nan _ _ => rw [hc] at c1; cases c1
            | infinity _ => rw [hc] at c1; cases c1
            | number t n j => exact ⟨_, _, _, rfl⟩
          have r2 : ∃ t n j, Ieee.double.read 4845873199050653695 = .number t n j := by
            unfold val at c2
            cases hc : Ieee.double.read 4845873199050653695 with
            | nan _ _ => rw [hc] at c2; cases c2
            | infinity _ => rw [hc] at c2; cases c2
            | number t n j => exact ⟨_, _, _, rfl⟩
          obtain ⟨t, n, j, r1⟩ := r1
          obtain ⟨t', n', j', r2⟩ := r2
          change ¬ Ieee.double.order x 14069245235905429503 = _ at h0
          change (Ieee.double.order x 4845873199050653695 == _) = _ at h1
          unfold Ieee.Format.order at h0 h1
          rw [hr, r1] at h0
          rw [hr, r2] at h1
          cases s
          · exact absurd h1 (by simp [Ieee.Datum.order])
          · exact h0 rfl
end Go.Proofs.Ytenibebomafdmaa
