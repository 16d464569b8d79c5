/- Plain facts on float64 words and the contracts of math.Abs, IsNaN, IsInf, spec.Finite. For every word of 64 bits. -/
import Derived.Test.YtenibebomafdmaaRows
import Derived.WalkKit
import Derived.WalkSpells
import Derived.WalkLawsBesides
import Derived.BigQuiet
import Derived.Deep.QuietTactic
import Derived.Deep.Draws
import Derived.BigGuardPart
import Derived.Lib.Hide
import Derived.Laws.FloatArith
namespace Go.Proofs.Ytenibebomafdmaa
open Go.RowKit

theorem run_neg_float (P : Program) (w : World) (k : FloatKind) (b : Nat) : (Op.unary .neg (.float k b)).run P w = .ok (.float k (Op.negFloat k b)) w := rfl
theorem run_not_bool (P : Program) (w : World) (b : Bool) : (Op.unary .not (.bool b)).run P w = .ok (.bool (!b)) w := rfl
attribute [local go_sem] run_neg_float

/-- The word of the absolute value. -/
def absW (b : Nat) : Nat := b % 9223372036854775808
def ordF (a b : Nat) : Option Ordering := Ieee.double.order a b
def nanB (b : Nat) : Bool := !(ordF b b == some .eq)
def infB (b : Nat) : Bool := ordF (absW b) 9218868437227405311 == some .gt
def finB (b : Nat) : Bool := !nanB b && !infB b

theorem fbits_run (b : Nat) (w : World) : (callFunc 38 #[.float .f64 b]).run Try.prog w = .ok (.value (.int .u64 b)) w := by kernel_rfl
theorem frombits_run (n : Int) (w : World) : (callFunc 37 #[.int .u64 n]).run Try.prog w = .ok (.value (.float .f64 n.toNat)) w := by kernel_rfl

theorem u64_absW (b : Nat) (hb : b < 18446744073709551616) : bits .andNot .u64 (b : Int) 9223372036854775808 = ((absW b : Nat) : Int) := by
  have h := u64_andNot_nat b 9223372036854775808 hb (by decide)
  have e : (18446744073709551615 - 9223372036854775808 : Nat) = 2 ^ 63 - 1 := by decide
  rw [show ((9223372036854775808 : Nat) : Int) = 9223372036854775808 from rfl] at h
  rw [h, e, Nat.and_two_pow_sub_one_eq_mod]
  rfl

theorem abs_any (b : Nat) (hb : b < 18446744073709551616) (w : World) :
    Calls Try.prog 18 #[.float .f64 b] w fun e w' => e = .returned (.float .f64 (absW b)) ∧ w = w' := by
  have h1 := fbits_run b w
  have h2 := frombits_run (absW b : Nat) w
  have h3 := u64_absW b hb
  go_enter Try.func18, Try.ntmps18
  go_wp2
  go_ret
  exact ⟨rfl, rfl⟩

theorem isNaN_any (b : Nat) (w : World) :
    Calls Try.prog 49 #[.float .f64 b] w fun e w' => e = .returned (.bool (nanB b)) ∧ w = w' := by
  go_enter Try.func49, Try.ntmps49
  go_wp2
  go_ret
  exact ⟨rfl, rfl⟩

theorem isInf_any (b : Nat) (hb : b < 18446744073709551616) (w : World) :
    Calls Try.prog 50 #[.float .f64 b, .int .i64 0] w fun e w' => e = .returned (.bool (infB b)) ∧ w = w' := by
  go_enter Try.func50, Try.ntmps50
  go_wp2_with (go_at_call 18; refine (abs_any _ hb _).mono ?_; rintro e w' ⟨rfl, rfl⟩)
  go_ret
  exact ⟨rfl, rfl⟩

theorem finite1_any (b : Nat) (hb : b < 18446744073709551616) (w : World) :
    Calls Try.prog 29 #[.float .f64 b] w fun e w' => e = .returned (.bool (finB b)) ∧ w = w' := by
  go_enter Try.func29, Try.ntmps29
  go_wp2_with (first | (go_at_call 49; refine (isNaN_any _ _).mono ?_; rintro e w' ⟨rfl, rfl⟩) | (go_at_call 50; refine (isInf_any _ hb _).mono ?_; rintro e w' ⟨rfl, rfl⟩))
  all_goals
    go_ret
    have hn : nanB b = true ∨ nanB b = false := by cases nanB b <;> simp
    rcases hn with h | h <;> simp_all [finB]

end Go.Proofs.Ytenibebomafdmaa
