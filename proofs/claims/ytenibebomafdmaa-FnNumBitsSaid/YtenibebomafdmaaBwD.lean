/- impl.NumBitNot, impl.NumMinus. -/
import Derived.Test.YtenibebomafdmaaBwC
namespace Go.Proofs.Ytenibebomafdmaa
open Go.RowKit Val

theorem i64val_any (n : Int) (w : World) :
    Calls Try.prog 90 #[.int .i64 n] w fun e w' => e = .returned (.pointer (some ⟨w.heap.size, 0, none⟩)) ∧ w' = w.alloc (.cells #[.float .f64 (intW n)] 118) := by
  have hcr : ∀ w, (Go.convert 2 28 (.int .i64 n)).run Try.prog w = .ok (.float .f64 (intW n)) w := fun w => by kernel_rfl
  go_enter Try.func90, Try.ntmps90
  go_wp2_with (go_at_call 76; refine (makeNum_any _ _).mono ?_; rintro e w' ⟨rfl, rfl⟩)
  go_ret
  exact ⟨rfl, rfl⟩

theorem bitNeg_any (i : Value) (g x : Nat) (a : Int) (ix : floatToIntVal .f64 x .i64 = some a) (w : World) (hc : w.cell? ⟨g, 0, none⟩ = some (.float .f64 x)) :
    Calls Try.prog 68 #[i, .iface 119 (.pointer (some ⟨g, 0, none⟩))] w fun e w' =>
      e = .returned (.tuple #[.iface 119 (.pointer (some ⟨w.heap.size, 0, none⟩)), .nilIface]) ∧ w' = w.alloc (.cells #[.float .f64 (intW (bits .xor .i64 (-1) a))] 118) := by
  have hcx : ∀ w, (Go.convert 28 2 (.float .f64 x)).run Try.prog w = .ok (.int .i64 a) w := fun w => run_convert_float_int w _ _ _ _ _ _ (by kernel_rfl) (by kernel_rfl) ix
  have hx : ∀ w, (Op.unary .xor (.int .i64 a)).run Try.prog w = .ok (.int .i64 (bits .xor .i64 (-1) a)) w := fun w => by kernel_rfl
  go_enter Try.func68, Try.ntmps68
  go_wp2_with (first
    | (go_at_call 81; refine (getNum_any _ _ _).mono ?_; rintro e w' ⟨rfl, rfl⟩)
    | (go_at_call 90; refine (i64val_any _ _).mono ?_; rintro e w' ⟨rfl, rfl⟩))
  go_ret2
  exact ⟨rfl, rfl⟩

set_option maxRecDepth 100000 in
theorem partNot_any (x : Nat) (a : Int) (ix : floatToIntVal .f64 x .i64 = some a) (w : World) :
    Calls Try.prog 46 #[.float .f64 x] w fun e w' => e = .returned (.tuple #[.float .f64 (intW (bits .xor .i64 (-1) a)), .nilIface]) ∧ Below w.heap.size w w' := by
  go_enter Try.func46, Try.ntmps46
  go_wp2_with (first
    | (go_at_call 57; refine (num_any _ _).mono ?_; rintro e w' ⟨rfl, rfl⟩)
    | (go_at_call 68; refine (bitNeg_any _ _ x a ix _ (by simp [go_sem])).mono ?_; rintro e w' ⟨rfl, rfl⟩)
    | (go_at_call 55; refine (numOf_any _ (intW (bits .xor .i64 (-1) a)) _ (by simp [go_sem])).mono ?_; rintro e w' ⟨rfl, rfl⟩))
  go_ret2
  refine ⟨rfl, ?_⟩
  repeat (first | exact Below.refl _ _ | refine Below.alloc ?_ (by simp; try omega) _ | refine Below.drew ?_)

theorem bitNot_any (x : Nat) (a : Int) (ix : floatToIntVal .f64 x .i64 = some a) (w : World) :
    Calls Try.prog 26 #[.float .f64 x] w (FloatOk (intW (bits .xor .i64 (-1) a)) w) := by
  go_enter Try.func26, Try.ntmps26
  go_wp2_with (first
    | (go_at_call 46; refine (partNot_any _ _ ix _).mono ?_; rintro e w' ⟨rfl, hb⟩)
    | (go_at_call 33; refine (number_any _ _).mono ?_; rintro e w' ⟨rfl, rfl⟩))
  go_ret2
  exact ⟨rfl, hb⟩

set_option maxRecDepth 100000 in
set_option maxHeartbeats 2000000 in
theorem minus1_any (i : Value) (gx gy x y r : Nat) (V : Int) (w : World) (hsub : Ieee.double.sub x y = some r) (hvr : val r = some V)
    (cx : w.cell? ⟨gx, 0, none⟩ = some (.float .f64 x)) (cy : w.cell? ⟨gy, 0, none⟩ = some (.float .f64 y)) :
    Calls Try.prog 67 #[i, .iface 119 (.pointer (some ⟨gx, 0, none⟩)), .iface 119 (.pointer (some ⟨gy, 0, none⟩))] w fun e w' =>
      e = .returned (.tuple #[.iface 119 (.pointer (some ⟨w.heap.size, 0, none⟩)), .nilIface]) ∧ w' = w.drew.alloc (.cells #[.float .f64 r] 118) := by
  have hr : r < 18446744073709551616 := Ieee.Format.sub_lt Ieee.double hsub
  have hs : ∀ w, (Go.binOp .sub 28 (.float .f64 x) (.float .f64 y)).run Try.prog w = .ok (.float .f64 r) w := fun w => run_float_arith w .sub _ .f64 x y r hsub
  go_enter Try.func67, Try.ntmps67
  go_wp2_with (first
    | (go_at_call 81; refine (getNum_any _ _ _).mono ?_; rintro e w' ⟨rfl, rfl⟩))
  go_region_law (go_simp; go_at_call 89; refine (dcheck_any _ _ _ hr hvr _).mono ?_; rintro e w' ⟨rfl, rfl⟩)
  all_goals
    go_wp2
    go_ret2
    exact ⟨rfl, rfl⟩

set_option maxRecDepth 100000 in
theorem partMinus_any (x y r : Nat) (V : Int) (w : World) (hsub : Ieee.double.sub x y = some r) (hvr : val r = some V) :
    Calls Try.prog 45 #[.float .f64 x, .float .f64 y] w fun e w' => e = .returned (.tuple #[.float .f64 r, .nilIface]) ∧ Below w.heap.size w w' := by
  go_enter Try.func45, Try.ntmps45
  go_wp2_with (first
    | (go_at_call 57; refine (num_any _ _).mono ?_; rintro e w' ⟨rfl, rfl⟩)
    | (go_at_call 67; refine (minus1_any _ _ _ x y r V _ hsub hvr (by simp [go_sem]) (by simp [go_sem])).mono ?_; rintro e w' ⟨rfl, rfl⟩)
    | (go_at_call 55; refine (numOf_any _ r _ (by simp [go_sem])).mono ?_; rintro e w' ⟨rfl, rfl⟩))
  go_ret2
  refine ⟨rfl, ?_⟩
  repeat (first | exact Below.refl _ _ | refine Below.alloc ?_ (by simp; try omega) _ | refine Below.drew ?_)

theorem minus_any (x y r : Nat) (V : Int) (w : World) (hsub : Ieee.double.sub x y = some r) (hvr : val r = some V) :
    Calls Try.prog 25 #[.float .f64 x, .float .f64 y] w (FloatOk r w) := by
  go_enter Try.func25, Try.ntmps25
  go_wp2_with (first
    | (go_at_call 45; refine (partMinus_any _ _ _ _ _ hsub hvr).mono ?_; rintro e w' ⟨rfl, hb⟩)
    | (go_at_call 33; refine (number_any _ _).mono ?_; rintro e w' ⟨rfl, rfl⟩))
  go_ret2
  exact ⟨rfl, hb⟩
end Go.Proofs.Ytenibebomafdmaa
