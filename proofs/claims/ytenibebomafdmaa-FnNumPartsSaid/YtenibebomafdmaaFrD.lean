/- impl.NumMantissa and impl.NumExponent of every word. -/
import Derived.Test.YtenibebomafdmaaFrC
import Derived.Test.YtenibebomafdmaaBaD
namespace Go.Proofs.Ytenibebomafdmaa
open Go.RowKit Val

theorem liftN_any (k : FuncId) (w : World) : Calls Try.prog 77 #[.func (.func k) #[] #[]] w fun e w' =>
    e = .returned (.func (.func 97) #[] #[.pointer (some ⟨w.heap.size, 0, none⟩)]) ∧ w' = w.alloc (.cells #[.func (.func k) #[] #[]] 35) := by
  have hmf : ∀ (fn : Fn) (first cap : Array Value) (w : World), (Instr.makeFunc fn first cap).run Try.prog w = .ok (.func fn first cap) w := fun _ _ _ _ => rfl
  go_enter Try.func77, Try.ntmps77
  go_wp2
  go_ret
  exact ⟨rfl, rfl⟩

theorem biMan_any (w : World) : Calls Try.prog 58 #[] w fun e w' =>
    e = .returned (.func (.func 97) #[] #[.pointer (some ⟨w.heap.size, 0, none⟩)]) ∧ w' = w.alloc (.cells #[.func (.func 78) #[] #[]] 35) := by
  go_enter Try.func58, Try.ntmps58
  go_wp2_with (go_at_call 77; refine (liftN_any _ _).mono ?_; rintro e w' ⟨rfl, rfl⟩)
  go_ret
  exact ⟨rfl, rfl⟩

set_option maxRecDepth 100000 in
set_option maxHeartbeats 1000000 in
theorem partMan_ok (x fr : Nat) (V : Int) (hfr : fr < 18446744073709551616) (hV : val fr = some V) (H : ∀ w, Calls Try.prog 78 #[.float .f64 x] w fun e w' => e = .returned (.float .f64 fr) ∧ w = w') (w : World) :
    Calls Try.prog 35 #[.float .f64 x] w fun e w' => e = .returned (.tuple #[.float .f64 fr, .nilIface]) ∧ Below w.heap.size w w' := by
  have HH := Lib.hid H
  have HV := Lib.hid hV
  clear H hV
  go_enter Try.func35, Try.ntmps35
  go_wp2_with (first
    | (go_at_call 58; refine (biMan_any _).mono ?_; rintro e w' ⟨rfl, rfl⟩)
    | (go_at_call 57; refine (num_any _ _).mono ?_; rintro e w' ⟨rfl, rfl⟩)
    | (go_at_call 97; refine (liftMan_ok _ _ _ x fr V hfr HV.out HH.out _ (by simp [go_sem]) (by simp [go_sem])).mono ?_; rintro e w' ⟨w3, hb, hz, rfl, rfl⟩)
    | (go_at_call 55; refine (numOf_any _ fr _ (by rw [World.cell?_alloc_at _ _ _ _ (by simp at hz; omega)]; rfl)).mono ?_; rintro e w' ⟨rfl, rfl⟩))
  go_ret2
  refine ⟨rfl, Below.alloc (Below.trans ?_ (hb.mono (by simp; omega))) (by simp at hz; omega) _⟩
  repeat (first | exact Below.refl _ _ | refine Below.alloc ?_ (by simp; try omega) _ | refine Below.drew ?_)

theorem numMan_ok (x fr : Nat) (V : Int) (hfr : fr < 18446744073709551616) (hV : val fr = some V) (H : ∀ w, Calls Try.prog 78 #[.float .f64 x] w fun e w' => e = .returned (.float .f64 fr) ∧ w = w') (w : World) :
    Calls Try.prog 15 #[.float .f64 x] w fun e w' => e = .returned (.tuple #[.float .f64 fr, .bool true]) ∧ Below w.heap.size w w' := by
  have HP := Lib.hid fun w => partMan_ok x fr V hfr hV H w
  clear H hV
  go_enter Try.func15, Try.ntmps15
  go_wp2_with (first
    | (go_at_call 35; refine (HP.out _).mono ?_; rintro e w' ⟨rfl, hb⟩)
    | (go_at_call 33; refine (number_any _ _).mono ?_; rintro e w' ⟨rfl, rfl⟩))
  go_ret2
  exact ⟨rfl, hb⟩

set_option maxRecDepth 100000 in
set_option maxHeartbeats 1000000 in
theorem partMan_err (x fr : Nat) (hfr : fr < 18446744073709551616) (hV : finB fr = false) (H : ∀ w, Calls Try.prog 78 #[.float .f64 x] w fun e w' => e = .returned (.float .f64 fr) ∧ w = w') (w : World) :
    Calls Try.prog 35 #[.float .f64 x] w (PartErr w) := by
  have HH := Lib.hid H
  have HV := Lib.hid hV
  clear H hV
  go_enter Try.func35, Try.ntmps35
  go_wp2_with (first
    | (go_at_call 58; refine (biMan_any _).mono ?_; rintro e w' ⟨rfl, rfl⟩)
    | (go_at_call 57; refine (num_any _ _).mono ?_; rintro e w' ⟨rfl, rfl⟩)
    | (go_at_call 97; refine (liftMan_err _ _ _ x fr hfr HV.out HH.out _ (by simp [go_sem]) (by simp [go_sem]) (by simp [go_sem]) (by simp [go_sem])).mono ?_; rintro e w' ⟨u, rfl, hb⟩)
    | (go_at_call 55; refine (numOfErr_any _ _ _ _).mono ?_; rintro e w' ⟨rfl, rfl⟩))
  go_ret2
  refine ⟨u, rfl, Below.trans ?_ (hb.mono (by simp; omega))⟩
  repeat (first | exact Below.refl _ _ | refine Below.alloc ?_ (by simp; try omega) _ | refine Below.drew ?_)

theorem numMan_err (x fr : Nat) (hfr : fr < 18446744073709551616) (hV : finB fr = false) (H : ∀ w, Calls Try.prog 78 #[.float .f64 x] w fun e w' => e = .returned (.float .f64 fr) ∧ w = w') (w : World) :
    Calls Try.prog 15 #[.float .f64 x] w fun e w' => e = .returned (.tuple #[.float .f64 0, .bool false]) ∧ Below w.heap.size w w' := by
  have HP := Lib.hid fun w => partMan_err x fr hfr hV H w
  clear H hV
  go_enter Try.func15, Try.ntmps15
  go_wp2_with (first
    | (go_at_call 35; refine (HP.out _).mono ?_; rintro e w' ⟨u, rfl, hb⟩)
    | (go_at_call 33; refine (numberErr_any _ _ _ _).mono ?_; rintro e w' ⟨rfl, rfl⟩))
  go_ret2
  exact ⟨rfl, hb⟩

theorem biExp_any (w : World) : Calls Try.prog 59 #[] w fun e w' =>
    e = .returned (.func (.func 97) #[] #[.pointer (some ⟨w.heap.size, 0, none⟩)]) ∧ w' = w.alloc (.cells #[.func (.func 80) #[] #[]] 35) := by
  go_enter Try.func59, Try.ntmps59
  go_wp2_with (go_at_call 77; refine (liftN_any _ _).mono ?_; rintro e w' ⟨rfl, rfl⟩)
  go_ret
  exact ⟨rfl, rfl⟩

set_option maxRecDepth 100000 in
set_option maxHeartbeats 1000000 in
theorem partExp_ok (x fr : Nat) (V : Int) (hfr : fr < 18446744073709551616) (hV : val fr = some V) (H : ∀ w, Calls Try.prog 80 #[.float .f64 x] w fun e w' => e = .returned (.float .f64 fr) ∧ w = w') (w : World) :
    Calls Try.prog 36 #[.float .f64 x] w fun e w' => e = .returned (.tuple #[.float .f64 fr, .nilIface]) ∧ Below w.heap.size w w' := by
  have HH := Lib.hid H
  have HV := Lib.hid hV
  clear H hV
  go_enter Try.func36, Try.ntmps36
  go_wp2_with (first
    | (go_at_call 59; refine (biExp_any _).mono ?_; rintro e w' ⟨rfl, rfl⟩)
    | (go_at_call 57; refine (num_any _ _).mono ?_; rintro e w' ⟨rfl, rfl⟩)
    | (go_at_call 97; refine (liftExp_ok _ _ _ x fr V hfr HV.out HH.out _ (by simp [go_sem]) (by simp [go_sem])).mono ?_; rintro e w' ⟨w3, hb, hz, rfl, rfl⟩)
    | (go_at_call 55; refine (numOf_any _ fr _ (by rw [World.cell?_alloc_at _ _ _ _ (by simp at hz; omega)]; rfl)).mono ?_; rintro e w' ⟨rfl, rfl⟩))
  go_ret2
  refine ⟨rfl, Below.alloc (Below.trans ?_ (hb.mono (by simp; omega))) (by simp at hz; omega) _⟩
  repeat (first | exact Below.refl _ _ | refine Below.alloc ?_ (by simp; try omega) _ | refine Below.drew ?_)

theorem numExp_ok (x fr : Nat) (V : Int) (hfr : fr < 18446744073709551616) (hV : val fr = some V) (H : ∀ w, Calls Try.prog 80 #[.float .f64 x] w fun e w' => e = .returned (.float .f64 fr) ∧ w = w') (w : World) :
    Calls Try.prog 16 #[.float .f64 x] w fun e w' => e = .returned (.tuple #[.float .f64 fr, .bool true]) ∧ Below w.heap.size w w' := by
  have HP := Lib.hid fun w => partExp_ok x fr V hfr hV H w
  clear H hV
  go_enter Try.func16, Try.ntmps16
  go_wp2_with (first
    | (go_at_call 36; refine (HP.out _).mono ?_; rintro e w' ⟨rfl, hb⟩)
    | (go_at_call 33; refine (number_any _ _).mono ?_; rintro e w' ⟨rfl, rfl⟩))
  go_ret2
  exact ⟨rfl, hb⟩
end Go.Proofs.Ytenibebomafdmaa
