/- math.Frexp of every word: which fraction and which exponent. No condition. -/
import Derived.Test.YtenibebomafdmaaBwA
import Derived.Test.YtenibebomafdmaaFrA
namespace Go.Proofs.Ytenibebomafdmaa
open Go.RowKit Val

def eq0 (x : Nat) : Bool := ordF x 0 == some .eq
theorem float_mul_run (t : TypeId) (x y z : Nat) (h : Ieee.double.mul x y = some z) (P : Program) (w : World) : (binOp .mul t (.float .f64 x) (.float .f64 y)).run P w = .ok (.float .f64 z) w :=
  run_float_arith (P := P) w .mul t .f64 x y z h

theorem normal_any (x : Nat) (hx : x < 18446744073709551616) (h : FloatKind.f64.format.order (absW x) 4503599627370496 = some Ordering.lt → False) (w : World) :
    Calls Try.prog 105 #[.float .f64 x] w fun e w' => e = .returned (.tuple #[.float .f64 x, .int .i64 0]) ∧ w = w' := by
  have h' : (FloatKind.f64.format.order (absW x) 4503599627370496 == some Ordering.lt) = false := by simpa using h
  clear h
  go_enter Try.func105, Try.ntmps105
  go_wp2_with (go_at_call 18; refine (abs_any _ hx _).mono ?_; rintro e w' ⟨rfl, rfl⟩)
  go_ret2
  exact ⟨rfl, rfl⟩

theorem normal_small (x y : Nat) (hx : x < 18446744073709551616) (h : FloatKind.f64.format.order (absW x) 4503599627370496 = some Ordering.lt) (hy : Ieee.double.mul x 4841369599423283200 = some y) (w : World) :
    Calls Try.prog 105 #[.float .f64 x] w fun e w' => e = .returned (.tuple #[.float .f64 y, .int .i64 (-52)]) ∧ w = w' := by
  have hm := fun w => float_mul_run 28 x 4841369599423283200 y hy Try.prog w
  clear hy
  go_enter Try.func105, Try.ntmps105
  go_wp2_with (go_at_call 18; refine (abs_any _ hx _).mono ?_; rintro e w' ⟨rfl, rfl⟩)
  go_ret2
  exact ⟨rfl, rfl⟩

theorem frexp_zero (x : Nat) (h : FloatKind.f64.format.order x 0 = some Ordering.eq) (w : World) :
    Calls Try.prog 99 #[.float .f64 x] w fun e w' => e = .returned (.tuple #[.float .f64 x, .int .i64 0]) ∧ w = w' := by
  go_enter Try.func99, Try.ntmps99
  go_wp2_with fail
  go_ret2
  exact ⟨rfl, rfl⟩

theorem frexp_odd (x : Nat) (hx : x < 18446744073709551616) (h : (FloatKind.f64.format.order x 0 == some Ordering.eq) = false) (h1 : finB x = false) (w : World) :
    Calls Try.prog 99 #[.float .f64 x] w fun e w' => e = .returned (.tuple #[.float .f64 x, .int .i64 0]) ∧ w = w' := by
  unfold finB at h1
  cases hi : infB x with
  | true =>
    clear h1
    go_enter Try.func99, Try.ntmps99
    go_wp2_with (first | (go_at_call 50; refine (isInf_any _ hx _).mono ?_; rintro e w' ⟨rfl, rfl⟩) | (go_at_call 49; refine (isNaN_any _ _).mono ?_; rintro e w' ⟨rfl, rfl⟩))
    go_ret2
    exact ⟨rfl, rfl⟩
  | false =>
    have hn : nanB x = true := by rw [hi] at h1; simpa using h1
    clear h1
    go_enter Try.func99, Try.ntmps99
    go_wp2_with (first | (go_at_call 50; refine (isInf_any _ hx _).mono ?_; rintro e w' ⟨rfl, rfl⟩) | (go_at_call 49; refine (isNaN_any _ _).mono ?_; rintro e w' ⟨rfl, rfl⟩))
    go_ret2
    exact ⟨rfl, rfl⟩

def keepW (y : Nat) : Nat := y / 9223372036854775808 * 9223372036854775808 + y % 4503599627370496
theorem u64_fields (y : Nat) (hy : y < 18446744073709551616) : bits .and .u64 ((y : Int) / 4503599627370496) 2047 = (expo y : Int) := by
  have h := u64_and_nat (y / 4503599627370496) 2047 (by omega) (by decide)
  have e := shr_expo y
  rw [Nat.shiftRight_eq_div_pow, two52] at e
  rw [e] at h
  exact h
theorem u64_keep (y : Nat) (hy : y < 18446744073709551616) : bits .andNot .u64 (y : Int) 9218868437227405312 = ((keepW y : Nat) : Int) := by
  have h := u64_andNot_nat y 9218868437227405312 hy (by decide)
  rw [show (18446744073709551615 - 9218868437227405312 : Nat) = 9227875636482146303 by decide, and_keep y hy] at h
  exact h
theorem u64_frac (y : Nat) (hy : y < 18446744073709551616) : bits .or .u64 ((keepW y : Nat) : Int) 4602678819172646912 = ((fracW y : Nat) : Int) := by
  have h := u64_or_nat (y / 9223372036854775808 * 9223372036854775808 + y % 4503599627370496) 4602678819172646912 (by omega) (by decide)
  rw [or_frac] at h
  exact h
theorem expo_lt (y : Nat) : expo y < 2048 := by unfold expo; omega
theorem frac_lt (y : Nat) (hy : y < 18446744073709551616) : fracW y < 18446744073709551616 := by unfold fracW; omega

theorem retFI {f : Nat} {a b : Int} (h : a = b) : Ending.returned (.tuple #[.float .f64 f, .int .i64 a]) = .returned (.tuple #[.float .f64 f, .int .i64 b]) := by rw [h]
set_option maxRecDepth 100000 in
theorem frexp_num (x y : Nat) (k : Int) (hx : x < 18446744073709551616) (hy : y < 18446744073709551616) (h : (FloatKind.f64.format.order x 0 == some Ordering.eq) = false) (hi : infB x = false) (hn : nanB x = false)
    (hk1 : -52 ≤ k) (hk2 : k ≤ 0) (H : ∀ w, Calls Try.prog 105 #[.float .f64 x] w fun e w' => e = .returned (.tuple #[.float .f64 y, .int .i64 k]) ∧ w = w') (w : World) :
    Calls Try.prog 99 #[.float .f64 x] w fun e w' => e = .returned (.tuple #[.float .f64 (fracW y), .int .i64 (k + expo y - 1022)]) ∧ w = w' := by
  have HN := Lib.hid H
  clear H
  have f1 := fun w => fbits_run y w
  have f2 := fun w => frombits_run (fracW y : Nat) w
  have u1 := u64_fields y hy
  have u2 := u64_keep y hy
  have u3 := u64_frac y hy
  have u4 := expo_lt y
  go_enter Try.func99, Try.ntmps99
  go_wp2_with (first | (go_at_call 50; refine (isInf_any _ hx _).mono ?_; rintro e w' ⟨rfl, rfl⟩) | (go_at_call 49; refine (isNaN_any _ _).mono ?_; rintro e w' ⟨rfl, rfl⟩) | (go_at_call 105; refine (HN.out _).mono ?_; rintro e w' ⟨rfl, rfl⟩))
  go_ret2
  exact ⟨retFI (by omega), rfl⟩

inductive Kind (x : Nat) : Nat → Int → Prop
  | zero (h : val x = some 0) : Kind x x 0
  | odd (h : finB x = false) : Kind x x 0
  | num {fr : Nat} {ex : Int} (h : Parts x fr ex) : Kind x fr ex

theorem val_zero : val 0 = some 0 := by unfold val; rw [read_eq]; simp [sv]
theorem val_least : val 4503599627370496 = some 4503599627370496 := by unfold val; rw [read_eq]; simp [sv]
theorem odd_of_none {x : Nat} (h : val x = none) : finB x = false ∧ (FloatKind.f64.format.order x 0 == some Ordering.eq) = false := by
  have h0 : Ieee.double.read 0 = .number false 0 (-1074) := by rw [read_eq]; decide
  have hm := read_max
  unfold val at h
  cases hr : Ieee.double.read x with
  | number s m i => rw [hr] at h; cases h
  | nan s t =>
    refine ⟨?_, ?_⟩
    · unfold finB nanB ordF Ieee.Format.order; rw [hr]; rfl
    · show (Ieee.double.order x 0 == _) = _
      unfold Ieee.Format.order; rw [hr]; rfl
  | infinity s =>
    refine ⟨?_, ?_⟩
    · have ha : Ieee.double.read (absW x) = .infinity false := by
        rw [read_eq] at hr ⊢
        unfold absW
        have e1 : x % 9223372036854775808 % 9223372036854775808 = x % 9223372036854775808 := by omega
        have e2 : (x % 9223372036854775808 / 9223372036854775808 % 2 == 1) = false := by simp
        rw [e1, e2]
        by_cases c1 : x % 9223372036854775808 < 4503599627370496
        · rw [if_pos c1] at hr; cases hr
        · rw [if_neg c1] at hr ⊢
          by_cases c2 : x % 9223372036854775808 < 9218868437227405312
          · rw [if_pos c2] at hr; cases hr
          · rw [if_neg c2] at hr ⊢
            by_cases c3 : x % 9223372036854775808 = 9218868437227405312
            · rw [if_pos c3]
            · rw [if_neg c3] at hr; cases hr
      unfold finB infB ordF Ieee.Format.order; rw [ha, hm]; simp [Ieee.Datum.order]
    · show (Ieee.double.order x 0 == _) = _
      unfold Ieee.Format.order; rw [hr, h0]; cases s <;> rfl

theorem frexp_all (x : Nat) (hx : x < 18446744073709551616) : ∃ fr ex, Kind x fr ex ∧ ∀ w, Calls Try.prog 99 #[.float .f64 x] w fun e w' => e = .returned (.tuple #[.float .f64 fr, .int .i64 ex]) ∧ w = w' := by
  cases hv : val x with
  | none =>
    obtain ⟨h1, h2⟩ := odd_of_none hv
    exact ⟨x, 0, .odd h1, frexp_odd x hx h2 h1⟩
  | some V =>
    have ho : FloatKind.f64.format.order x 0 = some (compare V 0) := order_val hv val_zero
    by_cases hV : V = 0
    · subst hV
      exact ⟨x, 0, .zero hv, frexp_zero x ho⟩
    · have ho' : (FloatKind.f64.format.order x 0 == some Ordering.eq) = false := by
        rw [ho]
        simp only [compare, compareOfLessAndEq, if_neg hV]
        split <;> rfl
      have h1 := nan_of_val hv
      have h2 := inf_of_val hv
      have hab := abs_val hv
      have hol : FloatKind.f64.format.order (absW x) 4503599627370496 = some (compare (V.natAbs : Int) 4503599627370496) := order_val hab val_least
      rcases val_cases hv with ⟨e1, e2⟩ | ⟨e1, e2⟩
      · have hs := val_split e1 e2
        rw [hv] at hs
        have hn : V.natAbs = (4503599627370496 + x % 4503599627370496) * 2 ^ (expo x - 1) := by rw [Option.some.inj hs, sv_abs]
        have hp := Nat.two_pow_pos (expo x - 1)
        have hge : 4503599627370496 * 1 ≤ (4503599627370496 + x % 4503599627370496) * 2 ^ (expo x - 1) := Nat.mul_le_mul (by omega) hp
        refine ⟨_, _, .num (parts_normal hx e1 e2), fun w => ?_⟩
        have := frexp_num x x 0 hx hx ho' h2 h1 (by omega) (by omega) (normal_any x hx (fun h => by
          rw [hol] at h
          simp only [compare, compareOfLessAndEq] at h
          rw [if_neg (by omega)] at h
          split at h <;> cases h)) w
        exact this.mono fun e w' ⟨he, hw⟩ => ⟨he.trans (retFI (by omega)), hw⟩
      · have hn : V.natAbs = x % 4503599627370496 := by rw [e2, sv_abs]
        have hlt : FloatKind.f64.format.order (absW x) 4503599627370496 = some Ordering.lt := by
          rw [hol]
          simp only [compare, compareOfLessAndEq]
          rw [if_pos (by omega)]
        obtain ⟨y, hy, hvy⟩ := mul_pow (x := x) (c := 4841369599423283200) (n := x % 4503599627370496) (u := 0) (k := 52) (s := (x / 9223372036854775808 % 2 == 1)) (j := 0)
          (by rw [Nat.pow_zero, Nat.mul_one, hv, e2]) (by omega) (by omega) read_p52 (by omega) (by omega)
        rw [Nat.zero_add] at hvy
        have hyl : y < 18446744073709551616 := by
          unfold Ieee.Format.mul at hy
          obtain ⟨d, _, rfl⟩ := Option.map_eq_some_iff.1 hy
          exact Ieee.Format.write_lt Ieee.double d
        obtain ⟨k1, k2, hp⟩ := parts_small hyl (by rw [hv, e2]) (by omega) (by omega) hvy
        refine ⟨_, _, .num hp, fun w => ?_⟩
        have := frexp_num x y (-52) hx hyl ho' h2 h1 (by omega) (by omega) (normal_small x y hx hlt hy) w
        exact this.mono fun e w' ⟨he, hw⟩ => ⟨he.trans (retFI (by omega)), hw⟩

theorem Frexp_all (x : Nat) (hx : x < 18446744073709551616) : ∃ fr ex, Kind x fr ex ∧ ∀ w, Calls Try.prog 79 #[.float .f64 x] w fun e w' => e = .returned (.tuple #[.float .f64 fr, .int .i64 ex]) ∧ w = w' := by
  obtain ⟨fr, ex, hk, H⟩ := frexp_all x hx
  refine ⟨fr, ex, hk, fun w => ?_⟩
  have HH := Lib.hid H
  clear H hk
  go_enter Try.func79, Try.ntmps79
  go_wp2_with (go_at_call 99; refine (HH.out _).mono ?_; rintro e w' ⟨rfl, rfl⟩)
  go_ret2
  exact ⟨rfl, rfl⟩
end Go.Proofs.Ytenibebomafdmaa
