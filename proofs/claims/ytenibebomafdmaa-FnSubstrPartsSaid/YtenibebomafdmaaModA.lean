/- math.Ldexp of 1; math.Mod by 1 of a small whole number: 0. -/
import Derived.Test.YtenibebomafdmaaFrB
namespace Go.Proofs.Ytenibebomafdmaa
open Go.RowKit Val

def w1 : Nat := 4607182418800017408
theorem val_w1 : val 4607182418800017408 = some ((1 : Int) * one) := by
  have : (4607182418800017408 : Nat) = intW 1 := by decide
  rw [this]; exact val_intW 1 (by omega)
theorem read_w1 : Ieee.double.read 4607182418800017408 = .number false 4503599627370496 (-52) := by rw [read_eq]; decide

/-- The word of 2 to the power of k. -/
def powW (k : Nat) : Nat := (k + 1023) * 4503599627370496
theorem val_powW (k : Nat) (hk : k ≤ 1000) : val (powW k) = some (((2 ^ k : Nat) : Int) * one) := by
  have h1 : expo (powW k) = k + 1023 := by unfold expo powW; omega
  have h := val_split (b := powW k) (by omega) (by omega)
  have e1 : powW k % 4503599627370496 = 0 := by unfold powW; omega
  have e2 : (powW k / 9223372036854775808 % 2 == 1) = false := by
    have : powW k / 9223372036854775808 % 2 = 0 := by unfold powW; omega
    rw [this]; rfl
  rw [h, e1, e2, h1]
  refine congrArg some ?_
  have e3 : (4503599627370496 + 0) * 2 ^ (k + 1023 - 1) = 2 ^ k * one := by
    unfold one
    rw [Nat.add_zero, ← two52, ← Nat.pow_add, ← Nat.pow_add]
    rw [show 52 + (k + 1023 - 1) = k + bias by rw [bias_eq]; omega]
  rw [e3]
  simp [sv]

theorem and_1023 : bits .and .i64 1023 2047 = 1023 := by decide
theorem u64_or_zero (k : Nat) (hk : k ≤ 1000) : bits .or .u64 0 (((k : Int) + 1023) * 4503599627370496) = ((powW k : Nat) : Int) := by
  have h := u64_or_nat 0 (powW k) (by omega) (by unfold powW; omega)
  rw [Nat.zero_or] at h
  have e : ((powW k : Nat) : Int) = ((k : Int) + 1023) * 4503599627370496 := by unfold powW; omega
  rw [← e]
  exact h
theorem read_powW (k : Nat) (hk : k ≤ 1000) : Ieee.double.read (powW k) = .number false 4503599627370496 ((k : Int) - 52) := by
  have h1 : expo (powW k) = k + 1023 := by unfold expo powW; omega
  rw [read_split (by omega) (by omega), h1]
  have e1 : powW k % 4503599627370496 = 0 := by unfold powW; omega
  have e2 : (powW k / 9223372036854775808 % 2 == 1) = false := by
    have : powW k / 9223372036854775808 % 2 = 0 := by unfold powW; omega
    rw [this]; rfl
  have e3 : ((k + 1023 : Nat) : Int) - 1075 = (k : Int) - 52 := by omega
  rw [e1, e2, e3]

set_option maxRecDepth 100000 in
theorem ldexp1_any (k : Nat) (hk : k ≤ 20) (w : World) : Calls Try.prog 109 #[.float .f64 4607182418800017408, .int .i64 k] w fun e w' => (∃ p, e = .returned (.float .f64 p) ∧ p < 18446744073709551616 ∧ val p = some (((2 ^ k : Nat) : Int) * one)) ∧ w = w' := by
  have hp1 : (0 : Int) < one := by have := one_pos; omega
  have hx0 : (FloatKind.f64.format.order 4607182418800017408 0 == some Ordering.eq) = false := by
    show (Ieee.double.order _ _ == _) = _
    rw [order_val val_w1 val_zero]
    simp only [compare, compareOfLessAndEq]
    rw [if_neg (by omega), if_neg (by omega)]; rfl
  have hn := nan_of_val val_w1
  have hi := inf_of_val val_w1
  have hnorm := fun w => normal_any 4607182418800017408 (by omega) (fun h => by
    have : FloatKind.f64.format.order (absW 4607182418800017408) 4503599627370496 = some (compare _ _) := order_val (abs_val val_w1) val_least
    rw [this] at h
    simp only [compare, compareOfLessAndEq] at h
    have h4 : (4503599627370496 : Int) ≤ one := by unfold one; rw [bias_eq]; exact Int.ofNat_le.2 (Nat.pow_le_pow_right (n := 2) (by decide) (show 52 ≤ 1074 by decide))
    rw [if_neg (by omega)] at h
    split at h <;> cases h) w
  have f1 := fun w => fbits_run 4607182418800017408 w
  have f2 := fun w => frombits_run (powW k : Nat) w
  have u1 := and_1023
  have u2 : bits .andNot .u64 4607182418800017408 9218868437227405312 = 0 := by decide
  have u3 := u64_or_zero k (by omega)
  obtain ⟨r, hr, hvr⟩ := mul_pow (x := 4607182418800017408) (c := powW k) (n := 1) (u := bias) (k := k) (s := false) (j := (k : Int) - 52) (by rw [val_w1]; simp [sv, one]) (by omega) (by rw [bias_eq]; omega) (read_powW k (by omega)) (by omega) (by omega)
  have hrl : r < 18446744073709551616 := by
    unfold Ieee.Format.mul at hr
    obtain ⟨d, _, rfl⟩ := Option.map_eq_some_iff.1 hr
    exact Ieee.Format.write_lt Ieee.double d
  have hvr2 : val r = some (((2 ^ k : Nat) : Int) * one) := by
    rw [hvr]
    refine congrArg some ?_
    rw [Nat.one_mul, Nat.pow_add, Nat.mul_comm]
    simp [sv, one]
  have hm := fun w => float_mul_run 28 4607182418800017408 (powW k) r hr Try.prog w
  have HVR := Lib.hid hvr2
  clear hr hvr hvr2
  go_enter Try.func109, Try.ntmps109
  go_wp2_with (first | (go_at_call 50; refine (isInf_any _ (by omega) _).mono ?_; rintro e w' ⟨rfl, rfl⟩) | (go_at_call 49; refine (isNaN_any _ _).mono ?_; rintro e w' ⟨rfl, rfl⟩) | (go_at_call 105; refine (hnorm _).mono ?_; rintro e w' ⟨rfl, rfl⟩))
  go_ret
  exact ⟨⟨r, rfl, hrl, HVR.out⟩, rfl⟩

theorem Ldexp1_any (k : Nat) (hk : k ≤ 20) (w : World) : Calls Try.prog 107 #[.float .f64 4607182418800017408, .int .i64 k] w fun e w' => (∃ p, e = .returned (.float .f64 p) ∧ p < 18446744073709551616 ∧ val p = some (((2 ^ k : Nat) : Int) * one)) ∧ w = w' := by
  go_enter Try.func107, Try.ntmps107
  go_wp2_with (go_at_call 109; refine (ldexp1_any k hk _).mono ?_; rintro e w' ⟨⟨p, rfl, h1, h2⟩, rfl⟩)
  go_ret
  exact ⟨⟨p, rfl, h1, h2⟩, rfl⟩

theorem one_k21' : one = 9007199254740992 * 2 ^ k21 := by
  unfold one
  rw [show bias = 53 + k21 by rw [bias_eq, k21_eq], Nat.pow_add, two53]

/-- What math.Frexp makes of a small whole number. -/
theorem frexp_int (r m : Nat) (hr : r < 18446744073709551616) (hm : 1 ≤ m) (hm2 : m ≤ 5000) (hv : val r = some ((m : Int) * one)) :
    ∃ fr k M : Nat, k ≤ 12 ∧ (∀ w, Calls Try.prog 79 #[.float .f64 r] w fun e w' => e = .returned (.tuple #[.float .f64 fr, .int .i64 ((k : Int) + 1)]) ∧ w = w') ∧ val fr = some ((M * 2 ^ k21 : Nat) : Int) ∧ 4503599627370496 ≤ M ∧ 2 ^ k ≤ m ∧ m < 2 ^ (k + 1) ∧ M * 2 ^ (k + 1) = m * 9007199254740992 := by
  have hp1 := one_pos
  have hmo : 0 < m * one := Nat.mul_pos hm hp1
  have hcast : (m : Int) * one = ((m * one : Nat) : Int) := by simp
  obtain ⟨fr, ex, hk, H⟩ := Frexp_all r hr
  cases hk with
  | zero h => rw [hv] at h; injection h with h; rw [hcast] at h; omega
  | odd h => unfold finB at h; rw [nan_of_val hv, inf_of_val hv] at h; cases h
  | num h =>
    obtain ⟨e1, e2, hsm, s, n, u, M, hv', hn, hf, hM1, hM2, hpos, hneg⟩ := h
    rw [hv] at hv'
    have hv' := Option.some.inj hv'
    rw [hcast] at hv'
    have hnu : n * 2 ^ u = m * one := by
      have := congrArg Int.natAbs hv'
      rw [sv_abs] at this
      simp at this
      omega
    have hs : s = false := by
      cases s
      · rfl
      · simp only [sv, if_true, hnu] at hv'; omega
    subst hs
    have h21 := Nat.two_pow_pos k21
    rcases Int.lt_or_le 0 ex with hex | hex
    · obtain ⟨p1, p2⟩ := hpos hex
      subst p1
      obtain ⟨k, rfl⟩ : ∃ k : Nat, ex = (k : Int) + 1 := ⟨ex.toNat - 1, by omega⟩
      have hu : u = (k + 1) + k21 := by rw [k21_eq]; omega
      have hq : n * 2 ^ (k + 1) = m * 9007199254740992 := by
        rw [hu, Nat.pow_add, one_k21', ← Nat.mul_assoc, ← Nat.mul_assoc] at hnu
        exact Nat.eq_of_mul_eq_mul_right h21 hnu
      have l1 : 2 ^ k ≤ m := by
        have : 4503599627370496 * 2 ^ (k + 1) ≤ n * 2 ^ (k + 1) := Nat.mul_le_mul_right _ hM1
        rw [hq, Nat.pow_succ] at this
        generalize 2 ^ k = z at *
        omega
      have l2 : m < 2 ^ (k + 1) := by
        have : n * 2 ^ (k + 1) < 9007199254740992 * 2 ^ (k + 1) := Nat.mul_lt_mul_of_pos_right hM2 (Nat.two_pow_pos _)
        rw [hq] at this
        generalize 2 ^ (k + 1) = z at *
        omega
      have l3 : k ≤ 12 := by
        rcases Nat.lt_or_ge 12 k with h | h
        · exfalso
          have : 2 ^ 13 ≤ 2 ^ k := Nat.pow_le_pow_right (by decide) h
          have e : (2 : Nat) ^ 13 = 8192 := rfl
          omega
        · exact h
      exact ⟨fr, k, n, l3, H, by rw [hf]; simp [sv], hM1, l1, l2, hq⟩
    · exfalso
      obtain ⟨p1, p2⟩ := hneg hex
      rw [Nat.pow_add, ← Nat.mul_assoc, hnu, one_k21'] at p1
      have h3 := Nat.two_pow_pos (-ex).toNat
      have h4 : M * 2 ^ k21 < 9007199254740992 * 2 ^ k21 := Nat.mul_lt_mul_of_pos_right hM2 h21
      have h5 : 1 * (9007199254740992 * 2 ^ k21) * 1 ≤ m * (9007199254740992 * 2 ^ k21) * 2 ^ (-ex).toNat := Nat.mul_le_mul (Nat.mul_le_mul_right _ hm) h3
      rw [p1] at h5
      omega

theorem order_nlt {x y : Nat} {a b : Int} (hx : val x = some a) (hy : val y = some b) (h : ¬ a < b) : (FloatKind.f64.format.order x y == some Ordering.lt) = false := by
  show (Ieee.double.order x y == _) = _
  rw [order_val hx hy]
  simp only [compare, compareOfLessAndEq]
  rw [if_neg h]
  split <;> rfl
theorem order_neq {x y : Nat} {a b : Int} (hx : val x = some a) (hy : val y = some b) (h : a ≠ b) : (FloatKind.f64.format.order x y == some Ordering.eq) = false := by
  show (Ieee.double.order x y == _) = _
  rw [order_val hx hy]
  unfold compare
  simp only [instOrdInt, compareOfLessAndEq]
  by_cases h1 : a < b
  · rw [if_pos h1]; rfl
  · rw [if_neg h1, if_neg h]; rfl

def fbits : Value → Nat
  | .float _ b => b
  | _ => 0
def meas (v : Value) : Nat := ((val (fbits v)).getD 0).natAbs
def ZeroP (w : World) (e : Ending) (w' : World) : Prop := ∃ r, e = .returned (.float .f64 r) ∧ val r = some 0 ∧ w = w'

set_option maxRecDepth 100000 in
set_option maxHeartbeats 1000000 in
theorem mod1_any (n : Nat) (hn : n ≤ 5000) (w : World) : Calls Try.prog 104 #[.float .f64 (intW n), .float .f64 4607182418800017408] w (ZeroP w) := by
  have hp1 : (0 : Int) < one := by have := one_pos; omega
  have hv := val_intW (n : Int) (by omega)
  have hy0 := order_neq val_w1 val_zero (by omega)
  have hn1 := nan_of_val hv
  have hi1 := inf_of_val hv
  have hn2 := nan_of_val val_w1
  have hx0 : (FloatKind.f64.format.order (intW n) 0 == some Ordering.lt) = false := order_nlt hv val_zero (by
    have := Int.mul_nonneg (show (0 : Int) ≤ (n : Int) by omega) (Int.le_of_lt hp1)
    omega)
  have hab : absW 4607182418800017408 = 4607182418800017408 := by decide
  obtain ⟨fr1, k1, M1, hk1, H1, hf1, hM1, l1, l2, hq1⟩ := frexp_int 4607182418800017408 1 (by omega) (by omega) (by omega) val_w1
  obtain rfl : k1 = 0 := by
    rcases Nat.eq_zero_or_pos k1 with h | h
    · exact h
    · have : 2 ^ 1 ≤ 2 ^ k1 := Nat.pow_le_pow_right (by decide) h
      omega
  have hM : M1 = 4503599627370496 := by simp at hq1; omega
  have H1' : ∀ w, Calls Try.prog 79 #[.float .f64 4607182418800017408] w fun e w' => e = .returned (.tuple #[.float .f64 fr1, .int .i64 1]) ∧ w = w' := H1
  have HH := Lib.hid H1'
  have HF1 := Lib.hid hf1
  have HV := Lib.hid hv
  have hil := intW_lt (n : Int)
  have HM := Lib.hid hM
  clear H1 H1' hf1 hv l1 l2 hk1 hq1 hM hM1
  go_enter Try.func104, Try.ntmps104
  go_wp2_with (first | (go_at_call 50; refine (isInf_any _ hil _).mono ?_; rintro e w' ⟨rfl, rfl⟩) | (go_at_call 49; refine (isNaN_any _ _).mono ?_; rintro e w' ⟨rfl, rfl⟩) | (go_at_call 18; refine (abs_any _ (by omega) _).mono ?_; rintro e w' ⟨rfl, rfl⟩) | (go_at_call 79; refine (HH.out _).mono ?_; rintro e w' ⟨rfl, rfl⟩))
  go_loop [7, 8, 9] (fun x _ _ => ∃ m r : Nat, m ≤ 5000 ∧ x = .float .f64 r ∧ r < 18446744073709551616 ∧ Hid (val r = some ((m : Int) * one))) (fun x _ _ => meas x)
  case atStart => exact ⟨n, intW n, hn, rfl, hil, HV⟩
  case round =>
    obtain ⟨m, r, hm, rfl, hrl, HR⟩ := hrel
    rcases Nat.eq_zero_or_pos m with rfl | hm1
    · have hge : FloatKind.f64.format.order r 4607182418800017408 = some Ordering.lt := by
        show Ieee.double.order _ _ = _
        rw [order_val HR.out val_w1]
        simp only [compare, compareOfLessAndEq]
        rw [if_pos (by simp; omega)]
      have hz : val r = some 0 := by rw [HR.out]; simp
      have HZ := Lib.hid hz
      clear hz
      go_wp2_with fail
      go_ret
      exact ⟨r, rfl, HZ.out, rfl⟩
    · obtain ⟨fr, k, M, hk, HK, hf, hM1, l1, l2, _⟩ := frexp_int r m hrl hm1 hm HR.out
      have hnl : (FloatKind.f64.format.order fr fr1 == some Ordering.lt) = false := order_nlt hf HF1.out (by
        have := Nat.mul_le_mul_right (2 ^ k21) hM1
        rw [HM.out]
        omega)
      have HKK := Lib.hid HK
      have hge : FloatKind.f64.format.order r 4607182418800017408 = some Ordering.gt ∨ FloatKind.f64.format.order r 4607182418800017408 = some Ordering.eq := by
        have hoo : FloatKind.f64.format.order r 4607182418800017408 = some (compare ((m : Int) * one) ((1 : Int) * one)) := order_val HR.out val_w1
        have hle : (1 : Int) * one ≤ (m : Int) * one := Int.mul_le_mul_of_nonneg_right (by omega) (by omega)
        rw [hoo]
        unfold compare
        simp only [instOrdInt, compareOfLessAndEq]
        rw [if_neg (by omega)]
        by_cases h : (m : Int) * one = (1 : Int) * one
        · rw [if_pos h]; exact .inr rfl
        · rw [if_neg h]; exact .inl rfl
      have HL1 := Lib.hid l1
      have hk' : (k : Int) ≤ 12 := by omega
      clear HK hf hM1 l1 l2
      rcases hge with hge | hge
      all_goals
        go_wp2_with fail
        refine (HKK.out _).mono ?_
        rintro e w' ⟨rfl, rfl⟩
        go_wp2_with fail
        refine (Ldexp1_any k (by omega) _).mono ?_
        rintro e w' ⟨⟨p, rfl, hpl, hpv⟩, rfl⟩
        obtain ⟨q, hq, hqv⟩ := sub_val (K := (m : Int) - ((2 ^ k : Nat) : Int)) HR.out hpv (by rw [Int.sub_mul]) (by have h := HL1.out; generalize 2 ^ k = z at h ⊢; omega)
        have hql : q < 18446744073709551616 := by
          unfold Ieee.Format.sub at hq
          obtain ⟨d, _, rfl⟩ := Option.map_eq_some_iff.1 hq
          exact Ieee.Format.write_lt Ieee.double d
        have hs := fun w => run_float_arith (P := Try.prog) w .sub 28 .f64 r p q hq
        have h2k := Nat.two_pow_pos k
        have hqv2 : val q = some (((m - 2 ^ k : Nat) : Int) * one) := by
          rw [hqv]
          congr 2
          have h := HL1.out
          generalize 2 ^ k = z at h ⊢
          omega
        have HQ := Lib.hid hqv2
        clear hqv hq hqv2 hpv
        go_wp2_with fail
        go_round
        case rel => exact ⟨m - 2 ^ k, q, by omega, rfl, hql, HQ⟩
        case measure =>
          simp only [meas, fbits, HQ.out, HR.out, Option.getD_some]
          rw [Int.natAbs_mul, Int.natAbs_mul]
          have := HL1.out
          exact Nat.mul_lt_mul_of_pos_right (by simp; omega) (by simpa using one_pos)

theorem Mod1_any (n : Nat) (hn : n ≤ 5000) (w : World) : Calls Try.prog 93 #[.float .f64 (intW n), .float .f64 4607182418800017408] w (ZeroP w) := by
  go_enter Try.func93, Try.ntmps93
  go_wp2_with (go_at_call 104; refine (mod1_any n hn _).mono ?_; rintro e w' ⟨r, rfl, hr, rfl⟩)
  go_ret
  exact ⟨r, rfl, hr, rfl⟩
end Go.Proofs.Ytenibebomafdmaa
