/- Plain facts on the words of float64: the value of a word as an integer (scaled by 2 to the power of 1074), exactness, order, conversion. -/
import Derived.Laws.FloatBits
import Derived.Laws.FloatArith
namespace Go.Proofs.Ytadehfoamdkcmaa.Val
open Ieee

def sv (s : Bool) (m : Nat) : Int := if s then -(m : Int) else m
/-- The value of a finite word, times 2 to the power of 1074. -/
def val (b : Nat) : Option Int :=
  match double.read b with
  | .number s m i => some (sv s (m * 2 ^ (i + 1074).toNat))
  | _ => none

theorem signed_eq (s : Bool) (m u : Nat) : signed s m u = sv s (m * 2 ^ u) := by simp [signed, sv, Nat.shiftLeft_eq]
theorem sv_mul (s : Bool) (m c : Nat) : sv s (m * c) = sv s m * c := by cases s <;> simp [sv, Int.neg_mul]
theorem sv_abs (s : Bool) (m : Nat) : (sv s m).natAbs = m := by cases s <;> simp [sv]

theorem read_eq (b : Nat) : double.read b =
    if b % 9223372036854775808 < 4503599627370496 then .number (b / 9223372036854775808 % 2 == 1) (b % 9223372036854775808) (-1074)
    else if b % 9223372036854775808 < 9218868437227405312 then .number (b / 9223372036854775808 % 2 == 1) (4503599627370496 + b % 9223372036854775808 % 4503599627370496) (-1074 + (b % 9223372036854775808 / 4503599627370496 - 1 : Nat))
    else if b % 9223372036854775808 = 9218868437227405312 then .infinity (b / 9223372036854775808 % 2 == 1) else .nan (b / 9223372036854775808 % 2 == 1) (b % 9223372036854775808 - 9218868437227405312) := rfl

theorem read_place {b : Nat} {s : Bool} {m : Nat} {i : Int} (h : double.read b = .number s m i) : -1074 ≤ i ∧ i ≤ 971 ∧ m < 9007199254740992 := by
  rw [read_eq] at h
  split at h
  · injection h with h1 h2 h3; subst h2 h3; omega
  · split at h
    · injection h with h1 h2 h3; subst h2 h3; omega
    · split at h <;> cases h

theorem compare_mul (a b : Int) (c : Nat) (hc : 0 < c) : compare (a * c) (b * c) = compare a b := by
  have hc' : (0 : Int) < c := by omega
  have hl : a * c < b * c ↔ a < b := ⟨fun h => Int.lt_of_mul_lt_mul_right h (by omega), fun h => Int.mul_lt_mul_of_pos_right h hc'⟩
  have he : a * c = b * c ↔ a = b := ⟨fun h => Int.eq_of_mul_eq_mul_right (by omega) h, fun h => by rw [h]⟩
  simp only [compare, compareOfLessAndEq, hl, he]

theorem pow_split (i base : Int) (h1 : base ≤ i) (h2 : -1074 ≤ base) : 2 ^ (i + 1074).toNat = 2 ^ (i - base).toNat * 2 ^ (base + 1074).toNat := by
  rw [← Nat.pow_add]
  congr 1
  omega

theorem order_val {x y : Nat} {a b : Int} (hx : val x = some a) (hy : val y = some b) : double.order x y = some (compare a b) := by
  unfold val at hx hy
  unfold Format.order
  cases hrx : double.read x with
  | nan s t => rw [hrx] at hx; cases hx
  | infinity s => rw [hrx] at hx; cases hx
  | number s m i =>
    cases hry : double.read y with
    | nan s t => rw [hry] at hy; cases hy
    | infinity s => rw [hry] at hy; cases hy
    | number t n j =>
      rw [hrx] at hx
      rw [hry] at hy
      injection hx with hx
      injection hy with hy
      subst hx hy
      have pi := read_place hrx
      have pj := read_place hry
      simp only [Datum.order, signed_eq]
      congr 1
      have hb1 : min i j ≤ i := by omega
      have hb2 : min i j ≤ j := by omega
      have hb3 : -1074 ≤ min i j := by omega
      rw [pow_split i (min i j) hb1 hb3, pow_split j (min i j) hb2 hb3, ← Nat.mul_assoc, ← Nat.mul_assoc, sv_mul s (m * _), sv_mul t (n * _)]
      exact (compare_mul _ _ _ (Nat.two_pow_pos _)).symm

theorem cut_exact (way : Toward) (neg : Bool) (c d : Nat) (hc : 0 < c) : way.cut neg (c * 2 ^ d) d = c := by
  have hlog : d ≤ (c * 2 ^ d).log2 := by
    rw [Nat.le_log2 (by have := Nat.two_pow_pos d; exact Nat.ne_of_gt (Nat.mul_pos hc this))]
    exact Nat.le_mul_of_pos_left _ hc
  have hgap : (1 : Nat) <<< min d ((c * 2 ^ d).log2 + 2) = 2 ^ d := by
    rw [Nat.min_eq_left (by omega), Nat.shiftLeft_eq, Nat.one_mul]
  unfold Toward.cut
  simp only [hgap]
  have hp := Nat.two_pow_pos d
  rw [Nat.mul_div_cancel _ hp, Nat.mul_mod_left]
  cases way <;> simp <;> omega

theorem read_word (neg : Bool) (r : Nat) (hr : r < 9223372036854775808) : double.read (double.word neg r) =
    if r < 4503599627370496 then .number neg r (-1074) else if r < 9218868437227405312 then .number neg (4503599627370496 + r % 4503599627370496) (-1074 + (r / 4503599627370496 - 1 : Nat)) else if r = 9218868437227405312 then .infinity neg else .nan neg (r - 9218868437227405312) := by
  have h1 : (double.word neg r / 9223372036854775808 % 2 == 1) = neg := by
    have e : double.word neg r = if neg then 9223372036854775808 + r else r := rfl
    rw [e]
    cases neg
    · simp; omega
    · simp; omega
  have h2 : double.word neg r % 9223372036854775808 = r := by
    have e : double.word neg r = if neg then 9223372036854775808 + r else r := rfl
    rw [e]
    cases neg <;> simp <;> omega
  rw [read_eq, h1, h2]

theorem nearest_eq (neg : Bool) (mag : Nat) (p : Int) (h : mag ≠ 0) : double.nearest neg mag p =
    double.word neg (min ((max (p + (mag.log2 : Int) - 52) (-1074) - -1074).toNat * 4503599627370496 + Toward.even.cut neg (mag <<< (p - max (p + (mag.log2 : Int) - 52) (-1074)).toNat) (max (p + (mag.log2 : Int) - 52) (-1074) - p).toNat) 9218868437227405312) := by
  unfold Format.nearest
  rw [if_neg h]
  rfl

/-- What has at most 53 digits is written without loss. -/
theorem nearest_val (neg : Bool) (m k : Nat) (p : Int) (hm : m < 9007199254740992) (h1 : -1074 ≤ p + k) (h2 : p + k ≤ 971) :
    val (double.nearest neg (m * 2 ^ k) p) = some (sv neg (m * 2 ^ (p + k + 1074).toNat)) := by
  rcases Nat.eq_zero_or_pos m with rfl | hm0
  · simp only [Nat.zero_mul, Format.nearest, if_true]
    unfold val
    rw [read_word _ _ (by omega)]
    simp [sv]
  · have hpk := Nat.two_pow_pos k
    have hmk : m * 2 ^ k ≠ 0 := Nat.ne_of_gt (Nat.mul_pos hm0 hpk)
    have hL1 : 2 ^ m.log2 ≤ m := Nat.log2_self_le (by omega)
    have hL2 : m < 2 ^ (m.log2 + 1) := Nat.lt_log2_self
    have hL3 : m.log2 ≤ 52 := by
      have : m.log2 < 53 := (Nat.log2_lt (by omega)).2 (by simpa using hm)
      omega
    have hlog : (m * 2 ^ k).log2 = m.log2 + k := by
      rw [Nat.log2_eq_iff hmk]
      constructor
      · rw [Nat.pow_add]; exact Nat.mul_le_mul_right _ hL1
      · rw [show m.log2 + k + 1 = (m.log2 + 1) + k by omega, Nat.pow_add]; exact Nat.mul_lt_mul_of_pos_right hL2 hpk
    obtain ⟨l, hl⟩ : ∃ l, max (p + ((m * 2 ^ k).log2 : Int) - 52) (-1074) = l := ⟨_, rfl⟩
    have hl1 : l ≤ p + k := by rw [hlog] at hl; omega
    have hl2 : -1074 ≤ l := by omega
    have hkept : Toward.even.cut neg ((m * 2 ^ k) <<< (p - l).toNat) (l - p).toNat = m * 2 ^ (p + k - l).toNat := by
      rw [Nat.shiftLeft_eq]
      rcases Int.le_total l p with h | h
      · have z : (l - p).toNat = 0 := by omega
        rw [z]
        have := cut_exact .even neg (m * 2 ^ k * 2 ^ (p - l).toNat) 0 (Nat.mul_pos (Nat.mul_pos hm0 hpk) (Nat.two_pow_pos _))
        rw [Nat.pow_zero, Nat.mul_one] at this
        rw [this, Nat.mul_assoc, ← Nat.pow_add]
        congr 2
        omega
      · have z : (p - l).toNat = 0 := by omega
        rw [z, Nat.pow_zero, Nat.mul_one]
        have e : m * 2 ^ k = (m * 2 ^ (p + k - l).toNat) * 2 ^ (l - p).toNat := by
          rw [Nat.mul_assoc, ← Nat.pow_add]
          congr 2
          omega
        rw [e]
        exact cut_exact .even neg _ _ (Nat.mul_pos hm0 (Nat.two_pow_pos _))
    have hlow : l ≠ -1074 → m * 2 ^ (p + k - l).toNat ≥ 4503599627370496 := by
      intro hne
      have hd : (p + k - l).toNat = 52 - m.log2 := by rw [hlog] at hl; omega
      rw [hd]
      calc m * 2 ^ (52 - m.log2) ≥ 2 ^ m.log2 * 2 ^ (52 - m.log2) := Nat.mul_le_mul_right _ hL1
        _ = 4503599627370496 := by rw [← Nat.pow_add, show m.log2 + (52 - m.log2) = 52 by omega]
    have hhigh : m * 2 ^ (p + k - l).toNat < 9007199254740992 := by
      have hd : (p + k - l).toNat ≤ 52 - m.log2 := by rw [hlog] at hl; omega
      calc m * 2 ^ (p + k - l).toNat ≤ m * 2 ^ (52 - m.log2) := Nat.mul_le_mul_left _ (Nat.pow_le_pow_right (by decide) hd)
        _ < 2 ^ (m.log2 + 1) * 2 ^ (52 - m.log2) := Nat.mul_lt_mul_of_pos_right hL2 (Nat.two_pow_pos _)
        _ = 9007199254740992 := by rw [← Nat.pow_add, show m.log2 + 1 + (52 - m.log2) = 53 by omega]
    have hsum : m * 2 ^ (p + k + 1074).toNat = (m * 2 ^ (p + k - l).toNat) * 2 ^ (l + 1074).toNat := by
      rw [Nat.mul_assoc, ← Nat.pow_add]
      congr 2
      omega
    rw [hsum]
    rw [nearest_eq _ _ _ hmk, hl, hkept]
    generalize m * 2 ^ (p + k - l).toNat = c at *
    obtain ⟨u, hu⟩ : ∃ u : Nat, l = (u : Int) - 1074 := ⟨(l + 1074).toNat, by omega⟩
    subst hu
    have hu1 : u ≤ 2045 := by omega
    have eu : ((u : Int) - 1074 - -1074).toNat = u := by omega
    have eu2 : ((u : Int) - 1074 + 1074).toNat = u := by omega
    rw [eu, eu2, Nat.min_eq_left (by omega)]
    unfold val
    rw [read_word _ _ (by omega)]
    by_cases hz : u = 0
    · subst hz
      by_cases hc : c < 4503599627370496
      · rw [if_pos (by omega)]
        simp
      · rw [if_neg (by omega), if_pos (by omega)]
        have a1 : 4503599627370496 + (0 * 4503599627370496 + c) % 4503599627370496 = c := by omega
        have a2 : (0 * 4503599627370496 + c) / 4503599627370496 - 1 = 0 := by omega
        rw [a1, a2]
        simp
    · have hc := hlow (by omega)
      rw [if_neg (by omega), if_pos (by omega)]
      have a1 : 4503599627370496 + (u * 4503599627370496 + c) % 4503599627370496 = c := by omega
      have a2 : (u * 4503599627370496 + c) / 4503599627370496 - 1 = u := by omega
      rw [a1, a2]
      have a3 : (-1074 + (u : Int) + 1074).toNat = u := by omega
      simp only [a3]
end Go.Proofs.Ytadehfoamdkcmaa.Val
