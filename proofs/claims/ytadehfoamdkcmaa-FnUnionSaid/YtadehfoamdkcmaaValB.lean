/- Plain facts on float64: integers, subtraction, truncation, conversion. -/
import Derived.Test.YtadehfoamdkcmaaVal
namespace Go.Proofs.Ytadehfoamdkcmaa.Val
open Ieee

@[irreducible] def bias : Nat := 1074
theorem bias_eq : bias = 1074 := by unfold bias; rfl
def one : Nat := 2 ^ bias
theorem one_pos : 0 < one := Nat.two_pow_pos _
theorem one_eq (k : Nat) (h : k = bias) : 2 ^ k = one := by rw [h]; rfl
theorem one_split (d : Nat) (e : Nat) (h : d + e = 1074) : one = 2 ^ d * 2 ^ e := by
  rw [← Nat.pow_add]; exact (one_eq _ (by rw [h, bias_eq])).symm
theorem two53 : (2 : Nat) ^ 53 = 9007199254740992 := rfl

theorem nearest_int (neg : Bool) (mag : Nat) (p : Int) (c : Nat) (h1 : -1074 ≤ p) (h2 : p ≤ 971) (hc : c ≤ 9007199254740992) (h : mag * 2 ^ (p + 1074).toNat = c * one) :
    val (double.nearest neg mag p) = some (sv neg (c * one)) := by
  rcases Int.le_total p 0 with hp | hp
  · have ho := one_split (-p).toNat (p + 1074).toNat (by omega)
    rw [ho, ← Nat.mul_assoc] at h
    have hm : mag = c * 2 ^ (-p).toNat := Nat.eq_of_mul_eq_mul_right (Nat.two_pow_pos _) h
    rcases Nat.lt_or_ge c 9007199254740992 with hlt | hge
    · have := nearest_val neg c (-p).toNat p hlt (by omega) (by omega)
      rw [hm, this]
      rw [one_eq _ (by have := bias_eq; omega)]
    · have hc2 : c = 9007199254740992 := by omega
      have hm2 : mag = 1 * 2 ^ (53 + (-p).toNat) := by rw [hm, hc2, Nat.pow_add, Nat.one_mul]
      have := nearest_val neg 1 (53 + (-p).toNat) p (by omega) (by omega) (by omega)
      rw [hm2, this]
      have e : (p + ((53 + (-p).toNat : Nat) : Int) + 1074).toNat = 53 + bias := by have := bias_eq; omega
      rw [e, hc2, Nat.pow_add, Nat.one_mul, one_eq _ rfl, two53]
  · have ho : 2 ^ (p + 1074).toNat = 2 ^ p.toNat * one := by
      unfold one
      rw [← Nat.pow_add]
      congr 1
      have := bias_eq
      omega
    rw [ho, ← Nat.mul_assoc] at h
    have hm : mag * 2 ^ p.toNat = c := Nat.eq_of_mul_eq_mul_right one_pos h
    rcases Nat.lt_or_ge mag 9007199254740992 with hlt | hge
    · have := nearest_val neg mag 0 p hlt (by omega) (by omega)
      rw [Nat.pow_zero, Nat.mul_one] at this
      rw [this, ← hm]
      have e : (p + ((0 : Nat) : Int) + 1074).toNat = (p + 1074).toNat := by omega
      rw [e, ho, Nat.mul_assoc]
    · have h2p : 1 ≤ 2 ^ p.toNat := Nat.two_pow_pos _
      have hpz : p.toNat = 0 := by
        rcases Nat.eq_zero_or_pos p.toNat with h | h
        · exact h
        · exfalso
          have : 2 ≤ 2 ^ p.toNat := by
            calc 2 = 2 ^ 1 := rfl
              _ ≤ 2 ^ p.toNat := Nat.pow_le_pow_right (by decide) h
          have : mag * 2 ≤ mag * 2 ^ p.toNat := Nat.mul_le_mul_left _ this
          omega
      rw [hpz, Nat.pow_zero, Nat.mul_one] at hm
      have hm2 : mag = 1 * 2 ^ 53 := by omega
      have hp0 : p = 0 := by omega
      have := nearest_val neg 1 53 p (by omega) (by omega) (by omega)
      rw [hm2, this, ← hm, hm2, hp0]
      have e : ((0 : Int) + ((53 : Nat) : Int) + 1074).toNat = 53 + bias := by have := bias_eq; omega
      rw [e, Nat.pow_add, Nat.one_mul, Nat.one_mul, one_eq _ rfl]

/-- The word of an integer. -/
def intW (n : Int) : Nat := floatOfInt .f64 n
theorem sv_natAbs (n : Int) (c : Nat) : sv (decide (n < 0)) (n.natAbs * c) = n * c := by
  rw [sv_mul]
  congr 1
  unfold sv
  by_cases h : n < 0
  · simp [h]; omega
  · simp [h]; omega
theorem val_intW (n : Int) (h : n.natAbs ≤ 9007199254740992) : val (intW n) = some (n * one) := by
  have := nearest_int (decide (n < 0)) n.natAbs 0 n.natAbs (by omega) (by omega) h (by rw [one_eq _ (by have := bias_eq; omega)])
  rw [sv_natAbs] at this
  exact this

theorem sub_val {x y : Nat} {a b K : Int} (hx : val x = some a) (hy : val y = some b) (hK : a - b = K * one) (hb : K.natAbs ≤ 9007199254740992) : ∃ r, double.sub x y = some r ∧ val r = some (K * one) := by
  unfold val at hx hy
  unfold Format.sub
  cases hrx : double.read x with
  | nan s t => rw [hrx] at hx; cases hx
  | infinity s => rw [hrx] at hx; cases hx
  | number s m i =>
    cases hry : double.read y with
    | nan s t => rw [hry] at hy; cases hy
    | infinity s => rw [hry] at hy; cases hy
    | number t n j =>
      rw [hrx] at hx
      rw [hry] at hy
      injection hx with hx
      injection hy with hy
      have pi := read_place hrx
      have pj := read_place hry
      have hb1 : min i j ≤ i := by omega
      have hb2 : min i j ≤ j := by omega
      have hb3 : -1074 ≤ min i j := by omega
      have hb4 : min i j ≤ 971 := by omega
      simp only [Datum.opposite, Datum.sum, Option.map_some, signed_eq, Format.write]
      refine ⟨_, rfl, ?_⟩
      rw [pow_split i (min i j) hb1 hb3, ← Nat.mul_assoc, sv_mul] at hx
      rw [pow_split j (min i j) hb2 hb3, ← Nat.mul_assoc, sv_mul] at hy
      have hneg : sv (!t) (n * 2 ^ (j - min i j).toNat) = - sv t (n * 2 ^ (j - min i j).toNat) := by cases t <;> simp [sv]
      rw [hneg]
      generalize sv s (m * 2 ^ (i - min i j).toNat) = u at *
      generalize sv t (n * 2 ^ (j - min i j).toNat) = v at *
      generalize min i j = base at *
      have hT : (u + -v) * ((2 ^ (base + 1074).toNat : Nat) : Int) = K * one := by
        rw [← hK, ← hx, ← hy, Int.add_mul, Int.neg_mul, Int.sub_eq_add_neg]
      generalize u + -v = T at *
      have hA : T.natAbs * 2 ^ (base + 1074).toNat = K.natAbs * one := by
        have := congrArg Int.natAbs hT
        rw [Int.natAbs_mul, Int.natAbs_mul] at this
        exact this
      have hsg : T ≠ 0 → decide (T < 0) = decide (K < 0) := by
        intro _
        have p1 : (0 : Int) < ((2 ^ (base + 1074).toNat : Nat) : Int) := by have := Nat.two_pow_pos (base + 1074).toNat; omega
        have p2 : (0 : Int) < (one : Int) := by have := one_pos; omega
        have : T < 0 ↔ K < 0 := by
          constructor
          · intro h
            have h9 := Int.mul_neg_of_neg_of_pos h p1
            rw [hT] at h9
            by_cases hk : K < 0
            · exact hk
            · have := Int.mul_nonneg (Int.not_lt.1 hk) (Int.le_of_lt p2); omega
          · intro h
            have h9 := Int.mul_neg_of_neg_of_pos h p2
            rw [← hT] at h9
            by_cases hk : T < 0
            · exact hk
            · have := Int.mul_nonneg (Int.not_lt.1 hk) (Int.le_of_lt p1); omega
        simp [this]
      rw [nearest_int _ T.natAbs base K.natAbs hb3 hb4 hb hA]
      by_cases h0 : T = 0
      · subst h0
        have hk : K.natAbs = 0 := by
          rcases Nat.eq_zero_or_pos K.natAbs with h | h
          · exact h
          · have h8 := Nat.mul_pos h one_pos
            rw [Int.natAbs_zero, Nat.zero_mul] at hA
            omega
        have hk0 : K = 0 := by omega
        subst hk0
        simp [sv]
      · rw [if_neg h0, hsg h0, sv_natAbs]

theorem cut_zero (neg : Bool) (n d : Nat) : Toward.zero.cut neg n d = n / 2 ^ d := by
  unfold Toward.cut
  simp only [Bool.toNat_false, Nat.add_zero, Nat.shiftLeft_eq, Nat.one_mul]
  rcases Nat.le_total d (n.log2 + 2) with h | h
  · rw [Nat.min_eq_left h]
  · rw [Nat.min_eq_right h]
    have h1 : n < 2 ^ (n.log2 + 1) := Nat.lt_log2_self
    have h2 : 2 ^ (n.log2 + 1) ≤ 2 ^ (n.log2 + 2) := Nat.pow_le_pow_right (by decide) (by omega)
    have h3 : 2 ^ (n.log2 + 2) ≤ 2 ^ d := Nat.pow_le_pow_right (by decide) h
    rw [Nat.div_eq_of_lt (by omega), Nat.div_eq_of_lt (by omega)]

/-- A finite word cut towards zero. -/
theorem integral_val {b : Nat} {V : Int} (h : val b = some V) : ∃ s c, (double.read b).integral .zero = .number s c 0 ∧ sv s c = V.tdiv one := by
  unfold val at h
  cases hr : double.read b with
  | nan s t => rw [hr] at h; cases h
  | infinity s => rw [hr] at h; cases h
  | number s m i =>
    rw [hr] at h
    injection h with h
    have pi := read_place hr
    refine ⟨s, _, rfl, ?_⟩
    rw [cut_zero, Nat.shiftLeft_eq, ← h]
    have hsv : (sv s (m * 2 ^ (i + 1074).toNat)).tdiv one = sv s (m * 2 ^ (i + 1074).toNat / one) := by
      cases s
      · simp only [sv, Bool.false_eq_true, if_false]; rfl
      · simp only [sv, if_true, Int.neg_tdiv]; rfl
    rw [hsv]
    congr 1
    rcases Int.le_total i 0 with hp | hp
    · have ho := one_split (-i).toNat (i + 1074).toNat (by omega)
      have z : i.toNat = 0 := by omega
      rw [z, Nat.pow_zero, Nat.mul_one, ho, Nat.mul_div_mul_right _ _ (Nat.two_pow_pos _)]
    · have ho : 2 ^ (i + 1074).toNat = 2 ^ i.toNat * one := by
        unfold one
        rw [← Nat.pow_add]
        congr 1
        have := bias_eq
        omega
      have z : (-i).toNat = 0 := by omega
      rw [z, Nat.pow_zero, Nat.div_one, ho, ← Nat.mul_assoc, Nat.mul_div_cancel _ one_pos]

theorem toInt_val {b : Nat} {V : Int} (h : val b = some V) : (double.read b).toInt .zero = some (V.tdiv one) := by
  obtain ⟨s, c, h1, h2⟩ := integral_val h
  unfold Datum.toInt
  rw [h1]
  simp only [signed_eq, Nat.pow_zero, Nat.mul_one, h2]

theorem tdiv_one (n : Int) : (n * one).tdiv one = n := Int.mul_tdiv_cancel n (by have := one_pos; omega)

/-- An integer's word, as an int64. -/
theorem toI64 {b : Nat} {n : Int} (h : val b = some (n * one)) (h1 : -9223372036854775808 ≤ n) (h2 : n ≤ 9223372036854775807) : floatToIntVal .f64 b .i64 = some n := by
  have := toInt_val h
  rw [tdiv_one] at this
  unfold floatToIntVal
  rw [show FloatKind.f64.decode b = double.read b from rfl, this]
  simp only []
  rw [if_pos ⟨h1, h2⟩]

/-- What math.Trunc leaves of a word that is not too great. -/
theorem trunc_val {b : Nat} {V : Int} (h : val b = some V) (hb : (V.tdiv one).natAbs ≤ 9007199254740992) : val (double.write ((double.read b).integral .zero)) = some (V.tdiv one * one) := by
  obtain ⟨s, c, h1, h2⟩ := integral_val h
  rw [h1]
  have hc : c ≤ 9007199254740992 := by rw [← h2, sv_abs] at hb; exact hb
  have := nearest_int s c 0 c (by omega) (by omega) hc (by rw [one_eq _ (by have := bias_eq; omega)])
  rw [sv_mul, h2] at this
  exact this
end Go.Proofs.Ytadehfoamdkcmaa.Val
