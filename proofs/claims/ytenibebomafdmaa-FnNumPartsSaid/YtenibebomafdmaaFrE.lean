/- The walk of laws.FnNumParts, for every word. -/
import Derived.Test.YtenibebomafdmaaFrD
namespace Go.Proofs.Ytenibebomafdmaa
open Go.RowKit Val

def BoolP (b : Bool) (w : World) (e : Ending) (w' : World) : Prop := e = .returned (.bool b) ∧ Below w.heap.size w w'

theorem intW_small {ex : Int} (h1 : -1100 < ex) (h2 : ex < 1100) : val (intW ex) = some (ex * one) := val_intW _ (by omega)

theorem order_gt {x y : Nat} {a b : Int} (hx : val x = some a) (hy : val y = some b) (h : b < a) : FloatKind.f64.format.order x y = some Ordering.gt := by
  show Ieee.double.order x y = _
  rw [order_val hx hy]
  simp only [compare, compareOfLessAndEq]
  rw [if_neg (by omega), if_neg (by omega)]
theorem order_lt {x y : Nat} {a b : Int} (hx : val x = some a) (hy : val y = some b) (h : a < b) : FloatKind.f64.format.order x y = some Ordering.lt := by
  show Ieee.double.order x y = _
  rw [order_val hx hy]
  simp only [compare, compareOfLessAndEq]
  rw [if_pos h]
theorem order_eq {x y : Nat} {a b : Int} (hx : val x = some a) (hy : val y = some b) (h : a = b) : FloatKind.f64.format.order x y = some Ordering.eq := by
  show Ieee.double.order x y = _
  rw [order_val hx hy]
  simp only [compare, compareOfLessAndEq]
  rw [if_neg (by omega), if_pos h]
theorem val_int {n : Int} (k : Nat) (hk : k = intW n) (h1 : -2000 ≤ n) (h2 : n ≤ 2000) : val k = some (n * one) := by rw [hk]; exact val_intW _ (by omega)
theorem pos_int : (0 : Int) < one := by have := one_pos; omega
theorem val_half : val 4602678819172646912 = some ((4503599627370496 * 2 ^ k21 : Nat) : Int) := by
  have h := val_split (b := 4602678819172646912) (by decide) (by decide)
  rw [h]
  have e1 : expo 4602678819172646912 - 1 = k21 := by rw [k21_eq]; decide
  rw [e1]
  rfl
theorem one_k21 : one = 9007199254740992 * 2 ^ k21 := by
  unfold one
  rw [show bias = 53 + k21 by rw [bias_eq, k21_eq], Nat.pow_add, two53]

set_option maxRecDepth 100000 in
theorem partsOdd_any (x : Nat) (hx : x < 18446744073709551616) (h : finB x = false) (H : ∀ w, Calls Try.prog 79 #[.float .f64 x] w fun e w' => e = .returned (.tuple #[.float .f64 x, .int .i64 0]) ∧ w = w') (w : World) :
    Calls Try.prog 5 #[.float .f64 x] w (BoolP true w) := by
  have HM := Lib.hid fun w => numMan_err x x hx h (manF_any x x 0 H) w
  have HE := Lib.hid fun w => numExp_ok x (intW 0) _ (intW_lt 0) (intW_small (by omega) (by omega)) (expF_any x x 0 H) w
  clear H
  go_enter Try.func5, Try.ntmps5
  go_wp2_with fail
  refine (HM.out _).mono ?_
  rintro e w1 ⟨rfl, hb1⟩
  go_wp2_with fail
  refine (HE.out _).mono ?_
  rintro e w2 ⟨rfl, hb2⟩
  go_wp2_with fail
  refine (finiteOf1_any w2.heap.size x hx _ (by simp [go_sem])).mono ?_
  rintro e w3 ⟨rfl, rfl⟩
  go_wp2_with fail
  go_ret
  exact ⟨rfl, (hb1.trans (hb2.mono hb1.size)).alloc (by have := hb1.size; have := hb2.size; omega) _⟩

set_option maxRecDepth 100000 in
theorem partsZero_any (x : Nat) (hx : x < 18446744073709551616) (hv : val x = some 0) (H : ∀ w, Calls Try.prog 79 #[.float .f64 x] w fun e w' => e = .returned (.tuple #[.float .f64 x, .int .i64 0]) ∧ w = w') (w : World) :
    Calls Try.prog 5 #[.float .f64 x] w (BoolP true w) := by
  have HM := Lib.hid fun w => numMan_ok x x _ hx hv (manF_any x x 0 H) w
  have HE := Lib.hid fun w => numExp_ok x (intW 0) _ (intW_lt 0) (intW_small (by omega) (by omega)) (expF_any x x 0 H) w
  have hx0 : FloatKind.f64.format.order x 0 = some Ordering.eq := order_eq hv val_zero rfl
  have hi0 : FloatKind.f64.format.order (intW 0) 0 = some Ordering.eq := order_eq (intW_small (by omega) (by omega)) val_zero (by simp)
  have hfin : finB x = true := by unfold finB; rw [nan_of_val hv, inf_of_val hv]; rfl
  clear H hv
  go_enter Try.func5, Try.ntmps5
  go_wp2_with fail
  refine (HM.out _).mono ?_
  rintro e w1 ⟨rfl, hb1⟩
  go_wp2_with fail
  refine (HE.out _).mono ?_
  rintro e w2 ⟨rfl, hb2⟩
  go_wp2_with fail
  refine (finiteOf1_any w2.heap.size x hx _ (by simp [go_sem])).mono ?_
  rintro e w3 ⟨rfl, rfl⟩
  go_wp2_with fail
  go_ret
  exact ⟨rfl, (hb1.trans (hb2.mono hb1.size)).alloc (by have := hb1.size; have := hb2.size; omega) _⟩

set_option maxRecDepth 100000 in
set_option maxHeartbeats 1000000 in
theorem partsNum_any (x fr : Nat) (ex : Int) (hx : x < 18446744073709551616) (hp : Parts x fr ex) (H : ∀ w, Calls Try.prog 79 #[.float .f64 x] w fun e w' => e = .returned (.tuple #[.float .f64 fr, .int .i64 ex]) ∧ w = w') (w : World) :
    Calls Try.prog 5 #[.float .f64 x] w (BoolP true w) := by
  obtain ⟨e1, e2, hsm, s, n, u, M, hv, hn, hf, hM1, hM2, hpos, hneg⟩ := hp
  have HM := Lib.hid fun w => numMan_ok x fr _ hsm hf (manF_any x fr ex H) w
  have HE := Lib.hid fun w => numExp_ok x (intW ex) _ (intW_lt ex) (intW_small (by omega) (by omega)) (expF_any x fr ex H) w
  clear H
  have hk := Nat.two_pow_pos k21
  have hn0 : 0 < n := by
    rcases Nat.eq_zero_or_pos n with h | h
    · exfalso
      rcases Int.lt_or_le 0 ex with h' | h'
      · have := (hpos h').1; omega
      · have := (hneg h').1
        rw [h, Nat.zero_mul] at this
        have := Nat.mul_pos (show 0 < M by omega) hk
        omega
    · exact h
  have hV0 : sv s (n * 2 ^ u) ≠ 0 := by
    intro h
    have h1 := congrArg Int.natAbs h
    rw [sv_abs] at h1
    have := Nat.mul_pos hn0 (Nat.two_pow_pos u)
    simp at h1
    omega
  have hx0 : (FloatKind.f64.format.order x 0 == some Ordering.eq) = false := by
    have : FloatKind.f64.format.order x 0 = some (compare (sv s (n * 2 ^ u)) 0) := order_val hv val_zero
    rw [this]
    simp only [compare, compareOfLessAndEq, if_neg hV0]
    split <;> rfl
  have hfin : finB x = true := by unfold finB; rw [nan_of_val hv, inf_of_val hv]; rfl
  have hfa := abs_val hf
  rw [sv_abs] at hfa
  have ha1 : FloatKind.f64.format.order (absW fr) 4602678819172646912 = some Ordering.gt ∨ FloatKind.f64.format.order (absW fr) 4602678819172646912 = some Ordering.eq := by
    have hle : 4503599627370496 * 2 ^ k21 ≤ M * 2 ^ k21 := Nat.mul_le_mul_right _ hM1
    rcases Nat.lt_or_ge (4503599627370496 * 2 ^ k21) (M * 2 ^ k21) with h | h
    · exact .inl (order_gt hfa val_half (by omega))
    · exact .inr (order_eq hfa val_half (by omega))
  have ha2 : FloatKind.f64.format.order (absW fr) 4607182418800017408 = some Ordering.lt := by
    have hlt : M * 2 ^ k21 < 9007199254740992 * 2 ^ k21 := Nat.mul_lt_mul_of_pos_right hM2 hk
    refine order_lt hfa (val_int (n := 1) _ (by decide) (by omega) (by omega)) ?_
    rw [← one_k21] at hlt
    omega
  have hi := intW_small (ex := ex) (by omega) (by omega)
  have hp1 := pos_int
  have hn1 : FloatKind.f64.format.order (intW ex) 13875924703463342080 = some Ordering.gt :=
    order_gt hi (val_int (n := -1100) _ (by decide) (by omega) (by omega)) (Int.mul_lt_mul_of_pos_right (by omega) hp1)
  have hn2 : FloatKind.f64.format.order (intW ex) 4652552666608566272 = some Ordering.lt :=
    order_lt hi (val_int (n := 1100) _ (by decide) (by omega) (by omega)) (Int.mul_lt_mul_of_pos_right (by omega) hp1)
  have hee : FloatKind.f64.format.order (intW ex) (intW ex) = some Ordering.eq := order_eq hi hi rfl
  have hci : floatToIntVal .f64 (intW ex) .i64 = some ex := toI64 hi (by omega) (by omega)
  have hcx : ∀ w, (Go.convert 28 3 (.float .f64 (intW ex))).run Try.prog w = .ok (.int .i64 ex) w := fun w => run_convert_float_int w _ _ _ _ _ _ (by kernel_rfl) (by kernel_rfl) hci
  have hcr : ∀ w n, (Go.convert 3 28 (.int .i64 n)).run Try.prog w = .ok (.float .f64 (intW n)) w := fun w n => by kernel_rfl
  have HV := Lib.hid hv
  have HF := Lib.hid hf
  have HPOS := Lib.hid hpos
  have HNEG := Lib.hid hneg
  clear hfa hi hci hv hf hpos hneg hV0
  by_cases hex : 0 < ex
  · have hg : FloatKind.f64.format.order (intW ex) 0 = some Ordering.gt := by
      refine order_gt (intW_small (by omega) (by omega)) val_zero ?_
      exact Int.mul_pos hex hp1
    rcases ha1 with ha1 | ha1
    all_goals
      go_enter Try.func5, Try.ntmps5
      go_wp2_with fail
      refine (HM.out _).mono ?_
      rintro e w1 ⟨rfl, hb1⟩
      go_wp2_with fail
      refine (HE.out _).mono ?_
      rintro e w2 ⟨rfl, hb2⟩
      go_wp2_with fail
      refine (finiteOf1_any w2.heap.size x hx _ (by simp [go_sem])).mono ?_
      rintro e w3 ⟨rfl, rfl⟩
      go_wp2_with fail
      refine (abs_any fr hsm _).mono ?_
      rintro e w4 ⟨rfl, rfl⟩
      go_wp2_with fail
      refine (abs_any fr hsm _).mono ?_
      rintro e w4 ⟨rfl, rfl⟩
      go_wp2_with fail
      go_loop [7, 8] (fun b i => ∃ (k : Nat) (y : Nat), (k : Int) ≤ ex - 1 ∧ i = .int .i64 k ∧ b = .float .f64 y ∧ val y = some (sv s (M * 2 ^ (k21 + k)))) (fun _ i => (ex - intOf i).toNat)
      case atStart => exact ⟨0, fr, by omega, rfl, rfl, HF.out⟩
      case round =>
        obtain ⟨k, y, hk1, rfl, rfl, hy⟩ := hrel
        have h21 := k21_eq
        obtain ⟨r, hr, hvr⟩ := mul_pow (k := 1) hy hM2 (by omega) read_two (by omega) (by omega)
        have hm := fun w => float_mul_run 28 y 4611686018427387904 r hr Try.prog w
        have HVR := Lib.hid hvr
        clear hr hvr hy h21
        by_cases hlt : (k : Int) < ex - 1
        · go_wp2_with fail
          go_round
          case rel => exact ⟨k + 1, r, by omega, by go_num, rfl, HVR.out⟩
          case measure => simp [intOf]; omega
        · have heq : FloatKind.f64.format.order r x = some Ordering.eq := by
            obtain ⟨p1, p2⟩ := HPOS.out hex
            have h21 := k21_eq
            have p3 : u = k21 + k + 1 := by omega
            refine order_eq HVR.out HV.out ?_
            rw [p1, p3]
          go_wp2_with fail
          go_ret
          refine ⟨rfl, ?_⟩
          exact (hb1.trans (hb2.mono hb1.size)).alloc (by have := hb1.size; have := hb2.size; omega) _
  · have hg : (FloatKind.f64.format.order (intW ex) 0 == some Ordering.gt) = false := by
      rcases Int.lt_or_eq_of_le (Int.not_lt.1 hex) with h | h
      · rw [order_lt (intW_small (by omega) (by omega)) val_zero (Int.mul_neg_of_neg_of_pos h hp1)]; rfl
      · rw [order_eq (intW_small (by omega) (by omega)) val_zero (by rw [h, Int.zero_mul])]; rfl
    have hex2 : ex ≤ 0 := by omega
    rcases ha1 with ha1 | ha1
    all_goals
      go_enter Try.func5, Try.ntmps5
      go_wp2_with fail
      refine (HM.out _).mono ?_
      rintro e w1 ⟨rfl, hb1⟩
      go_wp2_with fail
      refine (HE.out _).mono ?_
      rintro e w2 ⟨rfl, hb2⟩
      go_wp2_with fail
      refine (finiteOf1_any w2.heap.size x hx _ (by simp [go_sem])).mono ?_
      rintro e w3 ⟨rfl, rfl⟩
      go_wp2_with fail
      refine (abs_any fr hsm _).mono ?_
      rintro e w4 ⟨rfl, rfl⟩
      go_wp2_with fail
      refine (abs_any fr hsm _).mono ?_
      rintro e w4 ⟨rfl, rfl⟩
      go_wp2_with fail
      have hno : ¬ (0 : Int) < ex - 1 := by omega
      refine wp_loop_rounds 1 ?_
      rw [rounds_succ]
      go_wp2_with fail
      clear hno
      go_loop [9, 10] (fun b i => ∃ (k : Nat) (y : Nat), (k : Int) ≤ -ex ∧ i = .int .i64 k ∧ b = .float .f64 y ∧ val y = some (sv s (n * 2 ^ (u + k)))) (fun _ i => (-ex - intOf i).toNat)
      case atStart => exact ⟨0, x, by omega, rfl, rfl, HV.out⟩
      case round =>
        obtain ⟨k, y, hk1, rfl, rfl, hy⟩ := hrel
        by_cases hlt : (k : Int) < -ex
        · have hu2 := (HNEG.out hex2).2
          obtain ⟨r, hr, hvr⟩ := mul_pow (k := 1) hy hn (by omega) read_two (by omega) (by omega)
          have hm := fun w => float_mul_run 28 y 4611686018427387904 r hr Try.prog w
          have HVR := Lib.hid hvr
          clear hr hvr hy hu2
          go_wp2_with fail
          go_round
          case rel => exact ⟨k + 1, r, by omega, by go_num, rfl, HVR.out⟩
          case measure => simp [intOf]; omega
        · have heq : FloatKind.f64.format.order y fr = some Ordering.eq := by
            obtain ⟨p1, p2⟩ := HNEG.out hex2
            refine order_eq hy HF.out ?_
            have p3 : k = (-ex).toNat := by omega
            rw [p3, p1]
          clear hy
          go_wp2_with fail
          go_ret
          refine ⟨rfl, ?_⟩
          exact (hb1.trans (hb2.mono hb1.size)).alloc (by have := hb1.size; have := hb2.size; omega) _

theorem partsLaw_any (x : Nat) (hx : x < 18446744073709551616) (w : World) :
    Calls Try.prog 5 #[.float .f64 x] w (BoolP true w) := by
  obtain ⟨fr, ex, hk, H⟩ := Frexp_all x hx
  cases hk with
  | zero h => exact partsZero_any x hx h H w
  | odd h => exact partsOdd_any x hx h H w
  | num h => exact partsNum_any x fr ex hx h H w
end Go.Proofs.Ytenibebomafdmaa
