/- Plain facts: a word times a power of two, exactly; the fraction and the exponent of a normal word (frexp's). -/
import Derived.Test.YtenibebomafdmaaValB
import Derived.Laws.BitsAllLaws
namespace Go.Proofs.Ytenibebomafdmaa.Val
open Ieee

theorem read_two : double.read 4611686018427387904 = .number false 4503599627370496 (-51) := by rw [read_eq]; decide
theorem read_p52 : double.read 4841369599423283200 = .number false 4503599627370496 0 := by rw [read_eq]; decide

theorem read_form {b : Nat} {s : Bool} {m : Nat} {i : Int} (h : double.read b = .number s m i) : i = -1074 ∨ 4503599627370496 ≤ m := by
  rw [read_eq] at h
  split at h
  · injection h with h1 h2 h3; exact .inl h3.symm
  · split at h
    · injection h with h1 h2 h3; right; omega
    · split at h <;> cases h

theorem two52 : (2 : Nat) ^ 52 = 4503599627370496 := rfl

/-- A word that is n times 2 to the power of u, times 2 to the power of k. -/
theorem mul_pow {x c n u k : Nat} {s : Bool} {j : Int} (hx : val x = some (sv s (n * 2 ^ u))) (hn : n < 9007199254740992) (hu : u + k ≤ 2045)
    (hc : double.read c = .number false 4503599627370496 j) (hj : j + 52 = k) (hk : k ≤ 60) :
    ∃ r, double.mul x c = some r ∧ val r = some (sv s (n * 2 ^ (u + k))) := by
  unfold val at hx
  cases hrx : double.read x with
  | nan s t => rw [hrx] at hx; cases hx
  | infinity s => rw [hrx] at hx; cases hx
  | number t m i =>
    rw [hrx] at hx
    injection hx with hx
    have pl := read_place hrx
    have fo := read_form hrx
    have e1 : double.mul x c = some (double.nearest t (m * 2 ^ 52) (i + j)) := by
      unfold Format.mul
      rw [hrx, hc]
      show some (double.nearest (t ^^ false) (m * 4503599627370496) (i + j)) = _
      rw [Bool.xor_false, two52]
    refine ⟨_, e1, ?_⟩
    have hab : m * 2 ^ (i + 1074).toNat = n * 2 ^ u := by
      have := congrArg Int.natAbs hx
      rwa [sv_abs, sv_abs] at this
    rcases Nat.eq_zero_or_pos m with rfl | hm
    · have hz : n * 2 ^ u = 0 := by rw [← hab, Nat.zero_mul]
      have hn0 : n = 0 := by
        rcases Nat.eq_zero_or_pos n with h | h
        · exact h
        · have := Nat.mul_pos h (Nat.two_pow_pos u); omega
      subst hn0
      simp only [Nat.zero_mul, Format.nearest, if_true]
      unfold val
      rw [read_word _ _ (by omega)]
      simp [sv]
    · have hi : (i + 1074).toNat ≤ u ∨ i = -1074 := by
        rcases fo with h | h
        · exact .inr h
        · left
          rcases Nat.lt_or_ge u (i + 1074).toNat with hlt | hge
          · exfalso
            have h1 : 4503599627370496 * 2 ^ (u + 1) ≤ m * 2 ^ (i + 1074).toNat := Nat.mul_le_mul h (Nat.pow_le_pow_right (by decide) hlt)
            have h2 : n * 2 ^ u < 9007199254740992 * 2 ^ u := Nat.mul_lt_mul_of_pos_right hn (Nat.two_pow_pos u)
            rw [hab, Nat.pow_succ] at h1
            generalize 2 ^ u = z at *
            generalize n * z = y at *
            omega
          · exact hge
      have h1 := nearest_val t m 52 (i + j) pl.2.2 (by omega) (by omega)
      rw [h1]
      have e2 : (i + j + ((52 : Nat) : Int) + 1074).toNat = (i + 1074).toNat + k := by omega
      rw [e2, Nat.pow_add, ← Nat.mul_assoc, sv_mul, hx, ← sv_mul, Nat.mul_assoc, ← Nat.pow_add]

@[irreducible] def k21 : Nat := 1021
theorem k21_eq : k21 = 1021 := by unfold k21; rfl
/-- The exponent's digits of a word. -/
def expo (b : Nat) : Nat := b / 4503599627370496 % 2048
/-- The word with the exponent of the numbers from 1/2 up to 1. -/
def fracW (b : Nat) : Nat := b / 9223372036854775808 * 9223372036854775808 + 1022 * 4503599627370496 + b % 4503599627370496

theorem read_split {b : Nat} (h1 : 0 < expo b) (h2 : expo b < 2047) : double.read b = .number (b / 9223372036854775808 % 2 == 1) (4503599627370496 + b % 4503599627370496) ((expo b : Int) - 1075) := by
  unfold expo at *
  rw [read_eq, if_neg (by omega), if_pos (by omega)]
  congr 1 <;> omega
theorem val_split {b : Nat} (h1 : 0 < expo b) (h2 : expo b < 2047) : val b = some (sv (b / 9223372036854775808 % 2 == 1) ((4503599627370496 + b % 4503599627370496) * 2 ^ (expo b - 1))) := by
  unfold val
  rw [read_split h1 h2]
  have : ((expo b : Int) - 1075 + 1074).toNat = expo b - 1 := by omega
  simp only [this]
theorem expo_frac (b : Nat) : expo (fracW b) = 1022 := by unfold expo fracW; omega
theorem low_frac (b : Nat) : fracW b % 4503599627370496 = b % 4503599627370496 := by unfold fracW; omega
theorem sign_frac (b : Nat) : fracW b / 9223372036854775808 = b / 9223372036854775808 := by unfold fracW; omega
theorem val_frac (b : Nat) : val (fracW b) = some (sv (b / 9223372036854775808 % 2 == 1) ((4503599627370496 + b % 4503599627370496) * 2 ^ k21)) := by
  have h := val_split (b := fracW b) (by rw [expo_frac]; decide) (by rw [expo_frac]; decide)
  rw [h, expo_frac, low_frac, sign_frac, show 1022 - 1 = k21 by rw [k21_eq]]

/-- A word with a value is normal, or its value is less than 2 to the power of 52. -/
theorem val_cases {b : Nat} {V : Int} (h : val b = some V) : (0 < expo b ∧ expo b < 2047) ∨ (expo b = 0 ∧ V = sv (b / 9223372036854775808 % 2 == 1) (b % 4503599627370496)) := by
  unfold val at h
  rw [read_eq] at h
  unfold expo
  by_cases c1 : b % 9223372036854775808 < 4503599627370496
  · rw [if_pos c1] at h
    injection h with h
    right
    refine ⟨by omega, ?_⟩
    rw [← h]
    have e : (-1074 + 1074 : Int).toNat = 0 := by decide
    rw [e, Nat.pow_zero, Nat.mul_one]
    congr 1
    omega
  · rw [if_neg c1] at h
    by_cases c2 : b % 9223372036854775808 < 9218868437227405312
    · left; omega
    · rw [if_neg c2] at h
      by_cases c3 : b % 9223372036854775808 = 9218868437227405312
      · rw [if_pos c3] at h; cases h
      · rw [if_neg c3] at h; cases h

/-- What frexp takes out of a word that is neither 0 nor infinite nor no number: the fraction's word, the exponent. -/
structure Parts (x fr : Nat) (ex : Int) : Prop where
  ex1 : -1074 < ex
  ex2 : ex < 1025
  small : fr < 18446744073709551616
  more : ∃ (s : Bool) (n u M : Nat), val x = some (sv s (n * 2 ^ u)) ∧ n < 9007199254740992 ∧ val fr = some (sv s (M * 2 ^ k21)) ∧ 4503599627370496 ≤ M ∧ M < 9007199254740992 ∧
    (0 < ex → n = M ∧ (u : Int) = 1021 + ex) ∧ (ex ≤ 0 → n * 2 ^ (u + (-ex).toNat) = M * 2 ^ k21 ∧ (u : Int) - ex ≤ 2045)

theorem parts_normal {x : Nat} (hx : x < 18446744073709551616) (h1 : 0 < expo x) (h2 : expo x < 2047) : Parts x (fracW x) ((expo x : Int) - 1022) := by
  refine ⟨by omega, by omega, by unfold fracW; omega, _, _, _, _, val_split h1 h2, by omega, val_frac x, by omega, by omega, fun h => ⟨rfl, by omega⟩, fun h => ⟨?_, by omega⟩⟩
  congr 2
  have := k21_eq
  omega

theorem parts_small {x y F : Nat} {s : Bool} (hy : y < 18446744073709551616) (hx : val x = some (sv s F)) (h0 : F ≠ 0) (hF : F < 4503599627370496) (hv : val y = some (sv s (F * 2 ^ 52))) :
    0 < expo y ∧ expo y < 2047 ∧ Parts x (fracW y) ((expo y : Int) - 1074) := by
  have hbig : 4503599627370496 ≤ F * 2 ^ 52 := by rw [two52]; omega
  rcases val_cases hv with ⟨h1, h2⟩ | ⟨h1, h2⟩
  · refine ⟨h1, h2, ?_⟩
    have hs := val_split h1 h2
    rw [hv] at hs
    have hs := Option.some.inj hs
    have hab : F * 2 ^ 52 = (4503599627370496 + y % 4503599627370496) * 2 ^ (expo y - 1) := by
      have := congrArg Int.natAbs hs
      rwa [sv_abs, sv_abs] at this
    have hsg : (y / 9223372036854775808 % 2 == 1) = s := by
      generalize (y / 9223372036854775808 % 2 == 1) = t at *
      rw [← hab] at hs
      generalize F * 2 ^ 52 = z at *
      cases s <;> cases t <;> simp [sv] at hs ⊢ <;> omega
    have hE : expo y ≤ 52 := by
      rcases Nat.lt_or_ge 52 (expo y) with h | h
      · exfalso
        have h3 : 4503599627370496 * 2 ^ 52 ≤ (4503599627370496 + y % 4503599627370496) * 2 ^ (expo y - 1) := Nat.mul_le_mul (by omega) (Nat.pow_le_pow_right (by decide) (by omega))
        rw [← hab, two52] at h3
        omega
      · exact h
    have hf := val_frac y
    rw [hsg] at hf
    refine ⟨by omega, by omega, by unfold fracW; omega, s, F, 0, _, by rw [Nat.pow_zero, Nat.mul_one]; exact hx, by omega, hf, by omega, by omega, fun h => ?_, fun h => ⟨?_, by omega⟩⟩
    · omega
    · have e1 : 0 + (-((expo y : Int) - 1074)).toNat = 52 + (1022 - expo y) := by omega
      rw [e1, Nat.pow_add, ← Nat.mul_assoc, hab, Nat.mul_assoc, ← Nat.pow_add]
      congr 2
      have := k21_eq
      omega
  · exfalso
    have := congrArg Int.natAbs h2
    rw [sv_abs, sv_abs] at this
    omega

/-- The bits of the fraction. -/
theorem shr_expo (b : Nat) : (b >>> 52) &&& 2047 = expo b := by
  unfold expo
  rw [Nat.shiftRight_eq_div_pow, two52]
  exact Nat.and_two_pow_sub_one_eq_mod _ 11
theorem and_keep (b : Nat) (hb : b < 18446744073709551616) : b &&& 9227875636482146303 = b / 9223372036854775808 * 9223372036854775808 + b % 4503599627370496 := by
  have h1 : (b &&& 9227875636482146303) / 9223372036854775808 = b / 9223372036854775808 := by
    have := Nat.and_div_two_pow (a := b) (b := 9227875636482146303) (n := 63)
    have e : (9227875636482146303 : Nat) / 2 ^ 63 = 2 ^ 1 - 1 := by decide
    rw [e, Nat.and_two_pow_sub_one_eq_mod] at this
    have e2 : (2 : Nat) ^ 63 = 9223372036854775808 := rfl
    rw [e2] at this
    omega
  have h2 : (b &&& 9227875636482146303) % 9223372036854775808 = b % 4503599627370496 := by
    have := Nat.and_mod_two_pow (a := b) (b := 9227875636482146303) (n := 63)
    have e : (9227875636482146303 : Nat) % 2 ^ 63 = 2 ^ 52 - 1 := by decide
    rw [e, Nat.and_two_pow_sub_one_eq_mod] at this
    have e2 : (2 : Nat) ^ 63 = 9223372036854775808 := rfl
    rw [e2, two52] at this
    omega
  omega
theorem or_frac (b : Nat) : (b / 9223372036854775808 * 9223372036854775808 + b % 4503599627370496) ||| 4602678819172646912 = fracW b := by
  have e1 : b / 9223372036854775808 * 9223372036854775808 + b % 4503599627370496 = 2 ^ 63 * (b / 9223372036854775808) ||| b % 4503599627370496 := by
    rw [← Nat.two_pow_add_eq_or_of_lt (by omega : b % 4503599627370496 < 2 ^ 63)]; omega
  have e2 : 4602678819172646912 = 2 ^ 52 * 1022 := by decide
  rw [e1, Nat.or_assoc, Nat.or_comm (b % 4503599627370496), e2, ← Nat.two_pow_add_eq_or_of_lt (by omega : b % 4503599627370496 < 2 ^ 52), ← Nat.two_pow_add_eq_or_of_lt (by omega)]
  unfold fracW
  omega
end Go.Proofs.Ytenibebomafdmaa.Val
