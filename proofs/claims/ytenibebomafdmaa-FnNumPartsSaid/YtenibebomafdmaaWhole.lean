/- math.Trunc, spec.integer, spec.Whole: where they say yes, the word is an integer's. -/
import Derived.Test.YtenibebomafdmaaNumK
import Derived.Test.YtenibebomafdmaaValB
namespace Go.Proofs.Ytenibebomafdmaa
open Go.RowKit Val

theorem m3 (b : Nat) : ∃ A, (Extern.MathFloor.toIntegral "math.archTrunc" .zero #[.float .f64 b]) = Extern.MathFloor.toIntegral.match_1 (fun _ => Sem Value) (FloatKind.f64.decode b) A (fun d => pure (.float .f64 (FloatKind.f64.encode (d.integral .zero)))) := ⟨_, rfl⟩
theorem toIntegral_num (b : Nat) (s : Bool) (m : Nat) (i : Int) (hr : Ieee.double.read b = .number s m i) : (Extern.MathFloor.toIntegral "math.archTrunc" .zero #[.float .f64 b]) = pure (.float .f64 (Ieee.double.write ((Ieee.Datum.number s m i).integral .zero))) := by
  have hd : FloatKind.f64.decode b = .number s m i := hr
  obtain ⟨A, h⟩ := m3 b
  rw [h, hd]
  rfl
theorem archTrunc_bind (b : Nat) (w : World) : (callFunc 85 #[.float .f64 b]).run Try.prog w = ((Extern.MathFloor.toIntegral "math.archTrunc" .zero #[.float .f64 b]) >>= fun v => pure (Next.value v)).run Try.prog w := by kernel_rfl
theorem archTrunc_run (b : Nat) (V : Int) (h : val b = some V) (w : World) :
    (callFunc 85 #[.float .f64 b]).run Try.prog w = .ok (.value (.float .f64 (Ieee.double.write ((Ieee.double.read b).integral .zero)))) w := by
  unfold val at h
  rw [archTrunc_bind]
  cases hr : Ieee.double.read b with
  | nan s t => rw [hr] at h; cases h
  | infinity s => rw [hr] at h; cases h
  | number s m i => rw [toIntegral_num b s m i hr]; rfl

def truncW (b : Nat) : Nat := Ieee.double.write ((Ieee.double.read b).integral .zero)
set_option maxRecDepth 100000 in
theorem trunc_any (b : Nat) (V : Int) (h : val b = some V) (w : World) :
    Calls Try.prog 64 #[.float .f64 b] w fun e w' => e = .returned (.float .f64 (truncW b)) ∧ w = w' := by
  have h1 : (callFunc 85 #[.float .f64 b]).run Try.prog w = .ok (.value (.float .f64 (truncW b))) w := archTrunc_run b V h w
  clear h
  go_enter Try.func64, Try.ntmps64
  go_wp2
  go_ret
  exact ⟨rfl, rfl⟩

def WholeP (b : Nat) (w : World) (e : Ending) (w' : World) : Prop := ∃ n ok, e = .returned (.tuple #[.int .i64 n, .bool ok]) ∧ (ok = true → val b = some (n * one) ∧ -9007199254740992 < n ∧ n < 9007199254740992) ∧ w = w'
theorem WholeP.no (b : Nat) (w : World) : WholeP b w (.returned (.tuple #[.int .i64 0, .bool false])) w := ⟨0, false, rfl, (fun h => by cases h), rfl⟩

theorem fin_of_between {b : Nat} (h1 : FloatKind.f64.format.order b 14069245235905429504 = some Ordering.gt) (h2 : FloatKind.f64.format.order b 4845873199050653696 = some Ordering.lt) :
    ∃ V, val b = some V ∧ -9007199254740992 * (one : Int) < V ∧ V < 9007199254740992 * (one : Int) := by
  change Ieee.double.order b 14069245235905429504 = _ at h1
  change Ieee.double.order b 4845873199050653696 = _ at h2
  have c1 : val 14069245235905429504 = some (-9007199254740992 * (one : Int)) := by rw [show (14069245235905429504 : Nat) = intW (-9007199254740992) by decide]; exact val_intW _ (by decide)
  have c2 : val 4845873199050653696 = some (9007199254740992 * (one : Int)) := by rw [show (4845873199050653696 : Nat) = intW 9007199254740992 by decide]; exact val_intW _ (by decide)
  cases hv : val b with
  | some V =>
    rw [order_val hv c1] at h1
    rw [order_val hv c2] at h2
    simp only [compare, compareOfLessAndEq, Option.some.injEq] at h1 h2
    refine ⟨V, rfl, ?_, ?_⟩
    · split at h1
      · cases h1
      · split at h1
        · cases h1
        · omega
    · split at h2
      · assumption
      · split at h2 <;> cases h2
  | none =>
    exfalso
    unfold val at hv c1 c2
    unfold Ieee.Format.order at h1 h2
    cases hr : Ieee.double.read b with
    | nan s t => rw [hr] at h1; cases h1
    | number s m i => rw [hr] at hv; cases hv
    | infinity s =>
      rw [hr] at h1 h2
      cases hc : Ieee.double.read 14069245235905429504 with
      | nan _ _ => rw [hc] at c1; cases c1
      | infinity _ => rw [hc] at c1; cases c1
      | number t n j =>
        cases hd : Ieee.double.read 4845873199050653696 with
        | nan _ _ => rw [hd] at c2; cases c2
        | infinity _ => rw [hd] at c2; cases c2
        | number t' n' j' =>
          rw [hc] at h1
          rw [hd] at h2
          cases s
          · cases h2
          · cases h1

theorem cmp_eq {a b : Int} (h : compare a b = Ordering.eq) : a = b := by
  simp only [compare, compareOfLessAndEq] at h
  by_cases h1 : a < b
  · rw [if_pos h1] at h; cases h
  · rw [if_neg h1] at h
    by_cases h2 : a = b
    · exact h2
    · rw [if_neg h2] at h; cases h

theorem tdiv_small {V : Int} (h1 : -9007199254740992 * (one : Int) < V) (h2 : V < 9007199254740992 * (one : Int)) : -9007199254740992 < V.tdiv one ∧ V.tdiv one < 9007199254740992 := by
  have hp : (0 : Int) < one := by have := one_pos; omega
  have hn : V.natAbs < 9007199254740992 * one := by omega
  have hq : (V.tdiv one).natAbs = V.natAbs / one := by rw [Int.natAbs_tdiv]; rfl
  have := (Nat.div_lt_iff_lt_mul one_pos).2 hn
  omega

set_option maxRecDepth 100000 in
theorem integer_any (b : Nat) (w : World) :
    Calls Try.prog 42 #[.float .f64 b] w (WholeP b w) := by
  by_cases h1 : FloatKind.f64.format.order b 14069245235905429504 = some Ordering.gt
  · by_cases h2 : FloatKind.f64.format.order b 4845873199050653696 = some Ordering.lt
    · obtain ⟨V, hV, lo, hi⟩ := fin_of_between h1 h2
      have hs := tdiv_small lo hi
      have htv := trunc_val hV (by omega)
      have hord : Ieee.double.order b (truncW b) = _ := order_val hV htv
      by_cases h3 : V = V.tdiv one * one
      · have hc : floatToIntVal .f64 b .i64 = some (V.tdiv one) := toI64 (h3 ▸ hV) (by omega) (by omega)
        have hcx : ∀ w, (Go.convert 28 2 (.float .f64 b)).run Try.prog w = .ok (.int .i64 (V.tdiv one)) w := fun w => run_convert_float_int w _ _ _ _ _ _ (by kernel_rfl) (by kernel_rfl) hc
        have h4 : FloatKind.f64.format.order b (truncW b) = some Ordering.eq := by
          show Ieee.double.order b (truncW b) = _
          rw [hord, ← h3]
          simp [compare, compareOfLessAndEq]
        have hp : ∀ w, WholeP b w (.returned (.tuple #[.int .i64 (V.tdiv one), .bool true])) w := fun w => ⟨_, _, rfl, (fun _ => ⟨by rw [← h3]; exact hV, hs.1, hs.2⟩), rfl⟩
        have HP := Lib.hid hp
        clear hp hc h3 hord htv hs lo hi
        go_enter Try.func42, Try.ntmps42
        go_wp2_with (go_at_call 64; refine (trunc_any _ _ hV _).mono ?_; rintro e w' ⟨rfl, rfl⟩)
        go_ret2
        exact HP.out _
      · have h4 : ¬ FloatKind.f64.format.order b (truncW b) = some Ordering.eq := by
          show ¬ Ieee.double.order b (truncW b) = _
          rw [hord]
          intro h
          exact h3 (cmp_eq (Option.some.inj h))
        have h5 : (FloatKind.f64.format.order b (truncW b) != some Ordering.eq) = true := by simpa using h4
        clear h4 h3 hord htv hs lo hi
        go_enter Try.func42, Try.ntmps42
        go_wp2_with (go_at_call 64; refine (trunc_any _ _ hV _).mono ?_; rintro e w' ⟨rfl, rfl⟩)
        go_ret2
        exact .no _ _
    · have h2' : (FloatKind.f64.format.order b 4845873199050653696 == some Ordering.lt) = false := by simpa using h2
      go_enter Try.func42, Try.ntmps42
      go_wp2_with fail
      go_ret2
      exact .no _ _
  · have h1' : (FloatKind.f64.format.order b 14069245235905429504 == some Ordering.gt) = false := by simpa using h1
    go_enter Try.func42, Try.ntmps42
    go_wp2_with fail
    go_ret2
    exact .no _ _

theorem whole_any (b : Nat) (w : World) :
    Calls Try.prog 22 #[.float .f64 b] w (WholeP b w) := by
  go_enter Try.func22, Try.ntmps22
  go_wp2_with (go_at_call 42; refine (integer_any _ _).mono ?_; rintro e w' ⟨n, ok, rfl, hp, rfl⟩)
  go_ret2
  exact ⟨n, ok, rfl, hp, rfl⟩
end Go.Proofs.Ytenibebomafdmaa
