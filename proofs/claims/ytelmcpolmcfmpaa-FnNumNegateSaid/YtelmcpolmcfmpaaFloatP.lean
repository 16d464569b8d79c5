/- Plain facts on the words of float64: which are NaNs, how a word stands to itself, the sign. -/
import Derived.Laws.FloatBits
import Derived.Laws.FloatArith
namespace Go.Proofs.Ytelmcpolmcfmpaa.FloatP
open Ieee

theorem isNaN_read (x : Nat) : (double.read x).isNaN = decide (9218868437227405312 < x % 9223372036854775808) := by
  have e1 : double.signWeight = 9223372036854775808 := rfl
  have e2 : double.binade = 4503599627370496 := rfl
  have e3 : double.infRung = 9218868437227405312 := rfl
  unfold Format.read
  simp only [e1, e2, e3]
  split
  · simp [Datum.isNaN]; omega
  · split
    · simp [Datum.isNaN]; omega
    · split
      · simp [Datum.isNaN]; omega
      · simp [Datum.isNaN]; omega

theorem order_self (x : Nat) (h : (double.read x).isNaN = false) : double.order x x = some .eq := by
  unfold Format.order
  cases hd : double.read x with
  | nan s t => rw [hd] at h; simp [Datum.isNaN] at h
  | infinity s => cases s <;> rfl
  | number s m i => simp [Datum.order, compare, compareOfLessAndEq]

theorem order_self_nan (x : Nat) (h : (double.read x).isNaN = true) : double.order x x = none := by
  unfold Format.order
  cases hd : double.read x with
  | nan s t => rfl
  | infinity s => rw [hd] at h; simp [Datum.isNaN] at h
  | number s m i => rw [hd] at h; simp [Datum.isNaN] at h

theorem neg_mod (b : Nat) : Op.negFloat .f64 b % 9223372036854775808 = b % 9223372036854775808 := by
  show (b ^^^ 2 ^ 63) % 2 ^ 63 = b % 2 ^ 63
  rw [Nat.xor_mod_two_pow, Nat.mod_self, Nat.xor_zero]

theorem neg_self (b : Nat) (h : double.order b b = some .eq) : double.order (Op.negFloat .f64 b) (Op.negFloat .f64 b) = some .eq := by
  have hn : (double.read b).isNaN = false := by
    cases hb : (double.read b).isNaN with
    | false => rfl
    | true => rw [order_self_nan b hb] at h; cases h
  apply order_self
  rw [isNaN_read] at hn ⊢
  rw [neg_mod]
  exact hn

end Go.Proofs.Ytelmcpolmcfmpaa.FloatP
