/- makeDoubleCheck of a number; the closures of the operations on bits; liftBitwise. -/
import Derived.Test.YtenibebomafdmaaNumK
import Derived.Test.YtenibebomafdmaaValB
import Derived.Test.YtenibebomafdmaaBitP
import Derived.Deep.RegionLaw
import Derived.BigRegion
namespace Go.Proofs.Ytenibebomafdmaa
open Go.RowKit Val

theorem order_self_of_val {b : Nat} {V : Int} (h : val b = some V) : Ieee.double.order b b = some .eq := by
  rw [order_val h h]; simp [compare, compareOfLessAndEq]
theorem nan_of_val {b : Nat} {V : Int} (h : val b = some V) : nanB b = false := by
  unfold nanB ordF; rw [order_self_of_val h]; rfl

theorem read_max : Ieee.double.read 9218868437227405311 = .number false 9007199254740991 971 := by rw [read_eq]; decide
theorem le_max {b : Nat} {V M : Int} (h : val b = some V) (hM : val 9218868437227405311 = some M) : V ≤ M := by
  unfold val at h hM
  rw [read_max] at hM
  injection hM with hM
  cases hr : Ieee.double.read b with
  | nan s t => rw [hr] at h; cases h
  | infinity s => rw [hr] at h; cases h
  | number s m i =>
    rw [hr] at h
    injection h with h
    have pi := read_place hr
    have h1 : m * 2 ^ (i + 1074).toNat ≤ 9007199254740991 * 2 ^ ((971 : Int) + 1074).toNat :=
      Nat.mul_le_mul (by omega) (Nat.pow_le_pow_right (by decide) (by omega))
    rw [← h, ← hM]
    generalize m * 2 ^ (i + 1074).toNat = u at *
    generalize 9007199254740991 * 2 ^ ((971 : Int) + 1074).toNat = v at *
    cases s <;> simp [sv] <;> omega
theorem val_max : ∃ M, val 9218868437227405311 = some M := by unfold val; rw [read_max]; exact ⟨_, rfl⟩

theorem abs_val {b : Nat} {V : Int} (h : val b = some V) : val (absW b) = some (V.natAbs : Int) := by
  unfold val absW at *
  rw [read_eq] at h ⊢
  have e1 : b % 9223372036854775808 % 9223372036854775808 = b % 9223372036854775808 := by omega
  have e2 : (b % 9223372036854775808 / 9223372036854775808 % 2 == 1) = false := by simp
  rw [e1, e2]
  by_cases c1 : b % 9223372036854775808 < 4503599627370496
  · rw [if_pos c1] at h ⊢
    injection h with h; rw [← h, sv_abs]; rfl
  · rw [if_neg c1] at h ⊢
    by_cases c2 : b % 9223372036854775808 < 9218868437227405312
    · rw [if_pos c2] at h ⊢
      injection h with h; rw [← h, sv_abs]; rfl
    · rw [if_neg c2] at h
      by_cases c3 : b % 9223372036854775808 = 9218868437227405312
      · rw [if_pos c3] at h; cases h
      · rw [if_neg c3] at h; cases h

theorem inf_of_val {b : Nat} {V : Int} (h : val b = some V) : infB b = false := by
  obtain ⟨M, hM⟩ := val_max
  have h1 := abs_val h
  have h2 := le_max h1 hM
  unfold infB ordF
  rw [order_val h1 hM]
  simp only [compare, compareOfLessAndEq]
  split
  · rfl
  · split
    · rfl
    · omega

theorem intW_lt (n : Int) : intW n < 18446744073709551616 := by
  have := Ieee.Format.write_lt Ieee.double (.number (n < 0) n.natAbs 0)
  exact this

def SmallI (n : Int) : Prop := -9007199254740992 ≤ n ∧ n ≤ 9007199254740992

/-- makeDoubleCheck of a finite word: the number. -/
theorem dcheck_any (i : Value) (b : Nat) (V : Int) (hb : b < 18446744073709551616) (hv : val b = some V) (w : World) :
    Calls Try.prog 89 #[i, .float .f64 b] w fun e w' =>
      e = .returned (.tuple #[.iface 119 (.pointer (some ⟨w.heap.size, 0, none⟩)), .nilIface]) ∧ w' = w.alloc (.cells #[.float .f64 b] 118) := by
  have h1 := nan_of_val hv
  have h2 := inf_of_val hv
  clear hv
  go_enter Try.func89, Try.ntmps89
  go_wp2_with (first
    | (go_at_call 49; refine (isNaN_any _ _).mono ?_; rintro e w' ⟨rfl, rfl⟩)
    | (go_at_call 50; refine (isInf_any _ hb _).mono ?_; rintro e w' ⟨rfl, rfl⟩)
    | (go_at_call 76; refine (makeNum_any _ _).mono ?_; rintro e w' ⟨rfl, rfl⟩))
  go_ret2
  exact ⟨rfl, rfl⟩

theorem lift_any (k : FuncId) (w : World) : Calls Try.prog 74 #[.func (.func k) #[] #[], .bool false] w fun e w' =>
    e = .returned (.func (.func 96) #[] #[.pointer (some ⟨w.heap.size + 1, 0, none⟩), .pointer (some ⟨w.heap.size, 0, none⟩)]) ∧ w' = (w.alloc (.cells #[.func (.func k) #[] #[]] 130)).alloc (.cells #[.bool false] 4) := by
  have hmf : ∀ (fn : Fn) (first cap : Array Value) (w : World), (Instr.makeFunc fn first cap).run Try.prog w = .ok (.func fn first cap) w := fun _ _ _ _ => rfl
  go_enter Try.func74, Try.ntmps74
  go_wp2
  go_ret
  exact ⟨rfl, rfl⟩
end Go.Proofs.Ytenibebomafdmaa
