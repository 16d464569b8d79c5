/- The closure that liftBitwise makes, of two words in range: with &, |, ^; impl.NumBitAnd and its kin. -/
import Derived.Test.YtenibebomafdmaaBwA
import Derived.Deep.RegionHeld
namespace Go.Proofs.Ytenibebomafdmaa
open Go.RowKit Val

theorem cmp_ge {x : Nat} {a c : Int} (cw : Nat) (hx : val x = some (a * one)) (hc : cw = intW c) (h1 : c.natAbs ≤ 9007199254740992) : Ieee.double.order x cw = some (compare a c) := by
  rw [order_val hx (hc ▸ val_intW c h1), compare_mul _ _ _ one_pos]

theorem not_lt_min {x : Nat} {a : Int} (hx : val x = some (a * one)) (h : -9007199254740992 < a) : ¬ FloatKind.f64.format.order x 14069245235905429503 = some Ordering.lt := by
  rw [show FloatKind.f64.format.order x 14069245235905429503 = Ieee.double.order x 14069245235905429503 from rfl, cmp_ge 14069245235905429503 hx (c := -9007199254740991) (by decide) (by decide)]
  simp only [compare, compareOfLessAndEq]
  rw [if_neg (by omega)]
  split <;> decide
theorem not_gt_max {x : Nat} {a : Int} (hx : val x = some (a * one)) (h : a < 9007199254740992) : (FloatKind.f64.format.order x 4845873199050653695 == some Ordering.gt) = false := by
  rw [show FloatKind.f64.format.order x 4845873199050653695 = Ieee.double.order x 4845873199050653695 from rfl, cmp_ge 4845873199050653695 hx (c := 9007199254740991) (by decide) (by decide)]
  simp only [compare, compareOfLessAndEq]
  by_cases h1 : a < 9007199254740991
  · rw [if_pos h1]; rfl
  · rw [if_neg h1, if_pos (by omega)]; rfl
/-- In range for an operation on bits, and what int64 makes of it. -/
structure InR (x : Nat) (a : Int) : Prop where
  lo : ¬ FloatKind.f64.format.order x 14069245235905429503 = some Ordering.lt
  hi : (FloatKind.f64.format.order x 4845873199050653695 == some Ordering.gt) = false
  to : floatToIntVal .f64 x .i64 = some a
theorem inR_of_val {x : Nat} {a : Int} (hx : val x = some (a * one)) (h : -9007199254740992 < a) (h2 : a < 9007199254740992) : InR x a := ⟨not_lt_min hx h, not_gt_max hx h2, toI64 hx (by omega) (by omega)⟩


theorem fAnd_any (a b : Int) (w : World) : Calls Try.prog 75 #[.int .i64 a, .int .i64 b] w fun e w' => e = .returned (.int .i64 (bits .and .i64 a b)) ∧ w = w' := by
  go_enter Try.func75, Try.ntmps75
  go_wp2
  go_ret
  exact ⟨rfl, rfl⟩

set_option maxRecDepth 100000 in
set_option maxHeartbeats 2000000 in
theorem lift1And_any (i : Value) (gx gy p q x y : Nat) (a b V : Int) (w : World) (hx : InR x a) (hy : InR y b) (hvr : val (intW (bits .and .i64 a b)) = some V)
    (cx : w.cell? ⟨gx, 0, none⟩ = some (.float .f64 x)) (cy : w.cell? ⟨gy, 0, none⟩ = some (.float .f64 y)) (cp : w.cell? ⟨p, 0, none⟩ = some (.bool false)) (cq : w.cell? ⟨q, 0, none⟩ = some (.func (.func 75) #[] #[])) :
    Calls Try.prog 96 #[i, .iface 119 (.pointer (some ⟨gx, 0, none⟩)), .iface 119 (.pointer (some ⟨gy, 0, none⟩)), .pointer (some ⟨p, 0, none⟩), .pointer (some ⟨q, 0, none⟩)] w fun e w' =>
      e = .returned (.tuple #[.iface 119 (.pointer (some ⟨w.heap.size, 0, none⟩)), .nilIface]) ∧ w' = w.drew.alloc (.cells #[.float .f64 (intW (bits .and .i64 a b))] 118) := by
  obtain ⟨x1, x2, ix⟩ := hx
  obtain ⟨y1, y2, iy⟩ := hy
  have hcx : ∀ w, (Go.convert 28 2 (.float .f64 x)).run Try.prog w = .ok (.int .i64 a) w := fun w => run_convert_float_int w _ _ _ _ _ _ (by kernel_rfl) (by kernel_rfl) ix
  have hcy : ∀ w, (Go.convert 28 2 (.float .f64 y)).run Try.prog w = .ok (.int .i64 b) w := fun w => run_convert_float_int w _ _ _ _ _ _ (by kernel_rfl) (by kernel_rfl) iy
  have hcr : ∀ w, (Go.convert 2 28 (.int .i64 (bits .and .i64 a b))).run Try.prog w = .ok (.float .f64 (intW (bits .and .i64 a b))) w := fun w => by kernel_rfl
  go_enter Try.func96, Try.ntmps96
  go_wp2_with (first
    | (go_at_call 81; refine (getNum_any _ _ _).mono ?_; rintro e w' ⟨rfl, rfl⟩))
  go_region_held (fun w' => w'.cell? ⟨gx, 0, none⟩ = some (.float .f64 x) ∧ w'.cell? ⟨gy, 0, none⟩ = some (.float .f64 y) ∧ w'.cell? ⟨q, 0, none⟩ = some (.func (.func 75) #[] #[])) (go_keep)
    (first | (go_at_call 75; refine (fAnd_any _ _ _).mono ?_; rintro e w' ⟨rfl, rfl⟩) | (go_at_call 89; refine (dcheck_any _ _ _ (intW_lt _) hvr _).mono ?_; rintro e w' ⟨rfl, rfl⟩))
  all_goals
    go_wp2
    go_ret2
    exact ⟨rfl, rfl⟩

theorem biAnd_any (w : World) : Calls Try.prog 56 #[] w fun e w' =>
    e = .returned (.func (.func 96) #[] #[.pointer (some ⟨w.heap.size + 1, 0, none⟩), .pointer (some ⟨w.heap.size, 0, none⟩)]) ∧ w' = (w.alloc (.cells #[.func (.func 75) #[] #[]] 130)).alloc (.cells #[.bool false] 4) := by
  go_enter Try.func56, Try.ntmps56
  go_wp2_with (go_at_call 74; refine (lift_any _ _).mono ?_; rintro e w' ⟨rfl, rfl⟩)
  go_ret
  exact ⟨rfl, rfl⟩

theorem fOr_any (a b : Int) (w : World) : Calls Try.prog 87 #[.int .i64 a, .int .i64 b] w fun e w' => e = .returned (.int .i64 (bits .or .i64 a b)) ∧ w = w' := by
  go_enter Try.func87, Try.ntmps87
  go_wp2
  go_ret
  exact ⟨rfl, rfl⟩

set_option maxRecDepth 100000 in
set_option maxHeartbeats 2000000 in
theorem lift1Or_any (i : Value) (gx gy p q x y : Nat) (a b V : Int) (w : World) (hx : InR x a) (hy : InR y b) (hvr : val (intW (bits .or .i64 a b)) = some V)
    (cx : w.cell? ⟨gx, 0, none⟩ = some (.float .f64 x)) (cy : w.cell? ⟨gy, 0, none⟩ = some (.float .f64 y)) (cp : w.cell? ⟨p, 0, none⟩ = some (.bool false)) (cq : w.cell? ⟨q, 0, none⟩ = some (.func (.func 87) #[] #[])) :
    Calls Try.prog 96 #[i, .iface 119 (.pointer (some ⟨gx, 0, none⟩)), .iface 119 (.pointer (some ⟨gy, 0, none⟩)), .pointer (some ⟨p, 0, none⟩), .pointer (some ⟨q, 0, none⟩)] w fun e w' =>
      e = .returned (.tuple #[.iface 119 (.pointer (some ⟨w.heap.size, 0, none⟩)), .nilIface]) ∧ w' = w.drew.alloc (.cells #[.float .f64 (intW (bits .or .i64 a b))] 118) := by
  obtain ⟨x1, x2, ix⟩ := hx
  obtain ⟨y1, y2, iy⟩ := hy
  have hcx : ∀ w, (Go.convert 28 2 (.float .f64 x)).run Try.prog w = .ok (.int .i64 a) w := fun w => run_convert_float_int w _ _ _ _ _ _ (by kernel_rfl) (by kernel_rfl) ix
  have hcy : ∀ w, (Go.convert 28 2 (.float .f64 y)).run Try.prog w = .ok (.int .i64 b) w := fun w => run_convert_float_int w _ _ _ _ _ _ (by kernel_rfl) (by kernel_rfl) iy
  have hcr : ∀ w, (Go.convert 2 28 (.int .i64 (bits .or .i64 a b))).run Try.prog w = .ok (.float .f64 (intW (bits .or .i64 a b))) w := fun w => by kernel_rfl
  go_enter Try.func96, Try.ntmps96
  go_wp2_with (first
    | (go_at_call 81; refine (getNum_any _ _ _).mono ?_; rintro e w' ⟨rfl, rfl⟩))
  go_region_held (fun w' => w'.cell? ⟨gx, 0, none⟩ = some (.float .f64 x) ∧ w'.cell? ⟨gy, 0, none⟩ = some (.float .f64 y) ∧ w'.cell? ⟨q, 0, none⟩ = some (.func (.func 87) #[] #[])) (go_keep)
    (first | (go_at_call 87; refine (fOr_any _ _ _).mono ?_; rintro e w' ⟨rfl, rfl⟩) | (go_at_call 89; refine (dcheck_any _ _ _ (intW_lt _) hvr _).mono ?_; rintro e w' ⟨rfl, rfl⟩))
  all_goals
    go_wp2
    go_ret2
    exact ⟨rfl, rfl⟩

theorem biOr_any (w : World) : Calls Try.prog 65 #[] w fun e w' =>
    e = .returned (.func (.func 96) #[] #[.pointer (some ⟨w.heap.size + 1, 0, none⟩), .pointer (some ⟨w.heap.size, 0, none⟩)]) ∧ w' = (w.alloc (.cells #[.func (.func 87) #[] #[]] 130)).alloc (.cells #[.bool false] 4) := by
  go_enter Try.func65, Try.ntmps65
  go_wp2_with (go_at_call 74; refine (lift_any _ _).mono ?_; rintro e w' ⟨rfl, rfl⟩)
  go_ret
  exact ⟨rfl, rfl⟩

theorem fXor_any (a b : Int) (w : World) : Calls Try.prog 88 #[.int .i64 a, .int .i64 b] w fun e w' => e = .returned (.int .i64 (bits .xor .i64 a b)) ∧ w = w' := by
  go_enter Try.func88, Try.ntmps88
  go_wp2
  go_ret
  exact ⟨rfl, rfl⟩

set_option maxRecDepth 100000 in
set_option maxHeartbeats 2000000 in
theorem lift1Xor_any (i : Value) (gx gy p q x y : Nat) (a b V : Int) (w : World) (hx : InR x a) (hy : InR y b) (hvr : val (intW (bits .xor .i64 a b)) = some V)
    (cx : w.cell? ⟨gx, 0, none⟩ = some (.float .f64 x)) (cy : w.cell? ⟨gy, 0, none⟩ = some (.float .f64 y)) (cp : w.cell? ⟨p, 0, none⟩ = some (.bool false)) (cq : w.cell? ⟨q, 0, none⟩ = some (.func (.func 88) #[] #[])) :
    Calls Try.prog 96 #[i, .iface 119 (.pointer (some ⟨gx, 0, none⟩)), .iface 119 (.pointer (some ⟨gy, 0, none⟩)), .pointer (some ⟨p, 0, none⟩), .pointer (some ⟨q, 0, none⟩)] w fun e w' =>
      e = .returned (.tuple #[.iface 119 (.pointer (some ⟨w.heap.size, 0, none⟩)), .nilIface]) ∧ w' = w.drew.alloc (.cells #[.float .f64 (intW (bits .xor .i64 a b))] 118) := by
  obtain ⟨x1, x2, ix⟩ := hx
  obtain ⟨y1, y2, iy⟩ := hy
  have hcx : ∀ w, (Go.convert 28 2 (.float .f64 x)).run Try.prog w = .ok (.int .i64 a) w := fun w => run_convert_float_int w _ _ _ _ _ _ (by kernel_rfl) (by kernel_rfl) ix
  have hcy : ∀ w, (Go.convert 28 2 (.float .f64 y)).run Try.prog w = .ok (.int .i64 b) w := fun w => run_convert_float_int w _ _ _ _ _ _ (by kernel_rfl) (by kernel_rfl) iy
  have hcr : ∀ w, (Go.convert 2 28 (.int .i64 (bits .xor .i64 a b))).run Try.prog w = .ok (.float .f64 (intW (bits .xor .i64 a b))) w := fun w => by kernel_rfl
  go_enter Try.func96, Try.ntmps96
  go_wp2_with (first
    | (go_at_call 81; refine (getNum_any _ _ _).mono ?_; rintro e w' ⟨rfl, rfl⟩))
  go_region_held (fun w' => w'.cell? ⟨gx, 0, none⟩ = some (.float .f64 x) ∧ w'.cell? ⟨gy, 0, none⟩ = some (.float .f64 y) ∧ w'.cell? ⟨q, 0, none⟩ = some (.func (.func 88) #[] #[])) (go_keep)
    (first | (go_at_call 88; refine (fXor_any _ _ _).mono ?_; rintro e w' ⟨rfl, rfl⟩) | (go_at_call 89; refine (dcheck_any _ _ _ (intW_lt _) hvr _).mono ?_; rintro e w' ⟨rfl, rfl⟩))
  all_goals
    go_wp2
    go_ret2
    exact ⟨rfl, rfl⟩

theorem biXor_any (w : World) : Calls Try.prog 66 #[] w fun e w' =>
    e = .returned (.func (.func 96) #[] #[.pointer (some ⟨w.heap.size + 1, 0, none⟩), .pointer (some ⟨w.heap.size, 0, none⟩)]) ∧ w' = (w.alloc (.cells #[.func (.func 88) #[] #[]] 130)).alloc (.cells #[.bool false] 4) := by
  go_enter Try.func66, Try.ntmps66
  go_wp2_with (go_at_call 74; refine (lift_any _ _).mono ?_; rintro e w' ⟨rfl, rfl⟩)
  go_ret
  exact ⟨rfl, rfl⟩
end Go.Proofs.Ytenibebomafdmaa
