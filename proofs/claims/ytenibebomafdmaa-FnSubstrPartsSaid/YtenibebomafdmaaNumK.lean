/- The contracts of the package's numbers: makeValueNumber, num, getNumber, numOf (of a number, no error), impl.number (no error). For every word. -/
import Derived.Test.YtenibebomafdmaaFloatA
namespace Go.Proofs.Ytenibebomafdmaa
open Go.RowKit
attribute [local go_sem] run_neg_float

theorem assert_num_ok (v : Value) (w : World) : (Instr.typeAssert (.iface 119 v) 75 119 true).run Try.prog w = .ok (.tuple #[v, .bool true]) w := by kernel_rfl
theorem assert_num (v : Value) (w : World) : (Instr.typeAssert (.iface 119 v) 75 119 false).run Try.prog w = .ok v w := by kernel_rfl
attribute [local go_sem] assert_num_ok assert_num

/-- A number of the package's, at block g. -/
def numV (g : Nat) : Value := .iface 119 (.pointer (some ⟨g, 0, none⟩))
def numObj (b : Nat) : Obj := .cells #[.float .f64 b] 118

theorem makeNum_any (b : Nat) (w : World) :
    Calls Try.prog 76 #[.float .f64 b] w fun e w' => e = .returned (.pointer (some ⟨w.heap.size, 0, none⟩)) ∧ w' = w.alloc (.cells #[.float .f64 b] 118) := by
  go_enter Try.func76, Try.ntmps76
  go_wp2
  go_ret
  exact ⟨rfl, rfl⟩

theorem num_any (b : Nat) (w : World) :
    Calls Try.prog 57 #[.float .f64 b] w fun e w' => e = .returned (.iface 119 (.pointer (some ⟨w.heap.size, 0, none⟩))) ∧ w' = w.alloc (.cells #[.float .f64 b] 118) := by
  go_enter Try.func57, Try.ntmps57
  go_wp2_with (go_at_call 76; refine (makeNum_any _ _).mono ?_; rintro e w' ⟨rfl, rfl⟩)
  go_ret
  exact ⟨rfl, rfl⟩

theorem getNum_any (i : Value) (p : Value) (w : World) :
    Calls Try.prog 81 #[i, .iface 119 p] w fun e w' => e = .returned (.tuple #[p, .nilIface]) ∧ w = w' := by
  go_enter Try.func81, Try.ntmps81
  go_wp2
  go_ret2
  exact ⟨rfl, rfl⟩

theorem numOf_any (g b : Nat) (w : World) (hc : w.cell? ⟨g, 0, none⟩ = some (.float .f64 b)) :
    Calls Try.prog 55 #[.iface 119 (.pointer (some ⟨g, 0, none⟩)), .nilIface] w fun e w' => e = .returned (.tuple #[.float .f64 b, .nilIface]) ∧ w = w' := by
  go_enter Try.func55, Try.ntmps55
  go_wp2
  go_ret2
  exact ⟨rfl, rfl⟩

theorem number_any (b : Nat) (w : World) :
    Calls Try.prog 33 #[.float .f64 b, .nilIface] w fun e w' => e = .returned (.tuple #[.float .f64 b, .bool true]) ∧ w = w' := by
  go_enter Try.func33, Try.ntmps33
  go_wp2
  go_ret2
  exact ⟨rfl, rfl⟩

/-- One number handed to finite. -/
theorem finiteOf1_any (g b : Nat) (hb : b < 18446744073709551616) (w : World) (hc : w.cell? ⟨g, 0, none⟩ = some (.float .f64 b)) :
    Calls Try.prog 17 #[.slice (some ⟨g, 0, none⟩) 1 1] w fun e w' => e = .returned (.bool (finB b)) ∧ w = w' := by
  have hf : finB b = true ∨ finB b = false := by cases finB b <;> simp
  rcases hf with hf | hf
  all_goals
    go_enter Try.func17, Try.ntmps17
    go_wp2
    refine wp_loop_rounds 2 ?_
    rw [rounds_succ]
    go_wp2_with (go_at_call 29; refine (finite1_any _ hb _).mono ?_; rintro e w' ⟨rfl, rfl⟩)
    try rw [rounds_succ]
    try go_wp2
    go_ret
    exact ⟨by simp [hf], rfl⟩

end Go.Proofs.Ytenibebomafdmaa
