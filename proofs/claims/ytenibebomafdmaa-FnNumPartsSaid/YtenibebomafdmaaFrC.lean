/- std.mantissa and std.exponent of every word: the package's closures, the thin package's functions. -/
import Derived.Test.YtenibebomafdmaaFrB
import Derived.Test.YtenibebomafdmaaBaC
namespace Go.Proofs.Ytenibebomafdmaa
open Go.RowKit Val

theorem errI_any (s : ByteArray) (g : Nat) (w : World) (ci : w.cell? ⟨g, 7, none⟩ = some (.slice none 0 0)) (cl : w.cell? ⟨g, 5, none⟩ = some (.pointer none)) :
    Calls Try.prog 82 #[.pointer (some ⟨g, 0, none⟩), .string s] w fun e w' => (∃ u, e = .returned (.iface 152 u)) ∧ Below w.heap.size w w' := by
  go_enter Try.func82, Try.ntmps82
  go_wp2_with (first
    | (go_at_call 92; refine (stack_any g _ ci cl).mono ?_; rintro e w' ⟨rfl, rfl⟩)
    | (go_at_call 91; refine (mkErr_any _ _).mono ?_; rintro e w' ⟨rfl, hb⟩))
  go_ret
  exact ⟨⟨_, rfl⟩, hb.alloc hb.size _⟩

theorem dcheckErr_any (g b : Nat) (hb : b < 18446744073709551616) (h : finB b = false) (w : World) (ci : w.cell? ⟨g, 7, none⟩ = some (.slice none 0 0)) (cl : w.cell? ⟨g, 5, none⟩ = some (.pointer none)) :
    Calls Try.prog 89 #[.pointer (some ⟨g, 0, none⟩), .float .f64 b] w (LiftErr w) := by
  have hc : nanB b = true ∨ (nanB b = false ∧ infB b = true) := by
    unfold finB at h
    cases hn : nanB b <;> cases hi : infB b <;> simp [hn, hi] at h ⊢
  clear h
  rcases hc with h1 | ⟨h1, h2⟩
  all_goals
    go_enter Try.func89, Try.ntmps89
    go_wp2_with (first
      | (go_at_call 49; refine (isNaN_any _ _).mono ?_; rintro e w' ⟨rfl, rfl⟩)
      | (go_at_call 50; refine (isInf_any _ hb _).mono ?_; rintro e w' ⟨rfl, rfl⟩)
      | (go_at_call 82; refine (errI_any _ g _ ci cl).mono ?_; rintro e w' ⟨⟨u, rfl⟩, hbw⟩))
    go_ret2
    exact ⟨_, rfl, hbw⟩

theorem lt_of_cell {w : World} {g o : Nat} {v : Value} (h : w.cell? ⟨g, o, none⟩ = some v) : g < w.heap.size := by
  unfold World.cell? at h
  cases hg : w.heap[g]? with
  | none => simp [hg] at h
  | some x => exact (Array.getElem?_eq_some_iff.1 hg).1
/-- What the closure of mantissa, and that of exponent, does with a word: the number, if it is one. -/
def LiftN (fr : Nat) (w : World) (e : Ending) (w' : World) : Prop := ∃ w1 : World, Below w.heap.size w w1 ∧ w1.heap.size = w.heap.size ∧
  e = .returned (.tuple #[.iface 119 (.pointer (some ⟨w.heap.size, 0, none⟩)), .nilIface]) ∧ w' = w1.alloc (.cells #[.float .f64 fr] 118)

theorem manF_any (x fr : Nat) (ex : Int) (H : ∀ w, Calls Try.prog 79 #[.float .f64 x] w fun e w' => e = .returned (.tuple #[.float .f64 fr, .int .i64 ex]) ∧ w = w') (w : World) :
    Calls Try.prog 78 #[.float .f64 x] w fun e w' => e = .returned (.float .f64 fr) ∧ w = w' := by
  have HH := Lib.hid H
  clear H
  go_enter Try.func78, Try.ntmps78
  go_wp2_with (go_at_call 79; refine (HH.out _).mono ?_; rintro e w' ⟨rfl, rfl⟩)
  go_ret
  exact ⟨rfl, rfl⟩
theorem expF_any (x fr : Nat) (ex : Int) (H : ∀ w, Calls Try.prog 79 #[.float .f64 x] w fun e w' => e = .returned (.tuple #[.float .f64 fr, .int .i64 ex]) ∧ w = w') (w : World) :
    Calls Try.prog 80 #[.float .f64 x] w fun e w' => e = .returned (.float .f64 (intW ex)) ∧ w = w' := by
  have HH := Lib.hid H
  clear H
  have hcr : ∀ w n, (Go.convert 3 28 (.int .i64 n)).run Try.prog w = .ok (.float .f64 (intW n)) w := fun w n => by kernel_rfl
  go_enter Try.func80, Try.ntmps80
  go_wp2_with (go_at_call 79; refine (HH.out _).mono ?_; rintro e w' ⟨rfl, rfl⟩)
  go_ret
  exact ⟨rfl, rfl⟩


set_option maxRecDepth 100000 in
theorem liftMan_ok (i : Value) (gx p x fr : Nat) (V : Int) (hfr : fr < 18446744073709551616) (hV : val fr = some V) (H : ∀ w, Calls Try.prog 78 #[.float .f64 x] w fun e w' => e = .returned (.float .f64 fr) ∧ w = w') (w : World)
    (cx : w.cell? ⟨gx, 0, none⟩ = some (.float .f64 x)) (cp : w.cell? ⟨p, 0, none⟩ = some (.func (.func 78) #[] #[])) :
    Calls Try.prog 97 #[i, .iface 119 (.pointer (some ⟨gx, 0, none⟩)), .pointer (some ⟨p, 0, none⟩)] w (LiftN fr w) := by
  have HH := Lib.hid H
  have HV := Lib.hid hV
  clear H hV
  go_enter Try.func97, Try.ntmps97
  go_wp2_with (go_at_call 81; refine (getNum_any _ _ _).mono ?_; rintro e w' ⟨rfl, rfl⟩)
  go_region_held (fun w' => w'.cell? ⟨gx, 0, none⟩ = some (.float .f64 x) ∧ w'.cell? ⟨p, 0, none⟩ = some (.func (.func 78) #[] #[])) (go_keep)
    (first | (go_at_call 78; refine (HH.out _).mono ?_; rintro e w' ⟨rfl, rfl⟩) | (go_at_call 89; refine (dcheck_any _ _ _ hfr HV.out _).mono ?_; rintro e w' ⟨rfl, rfl⟩))
  all_goals
    go_wp2
    go_ret2
    exact ⟨w.drew, Below.drew (Below.refl _ _), rfl, rfl, rfl⟩

set_option maxRecDepth 100000 in
theorem liftMan_err (g gx p x fr : Nat) (hfr : fr < 18446744073709551616) (hV : finB fr = false) (H : ∀ w, Calls Try.prog 78 #[.float .f64 x] w fun e w' => e = .returned (.float .f64 fr) ∧ w = w') (w : World)
    (cx : w.cell? ⟨gx, 0, none⟩ = some (.float .f64 x)) (cp : w.cell? ⟨p, 0, none⟩ = some (.func (.func 78) #[] #[])) (ci : w.cell? ⟨g, 7, none⟩ = some (.slice none 0 0)) (cl : w.cell? ⟨g, 5, none⟩ = some (.pointer none)) :
    Calls Try.prog 97 #[.pointer (some ⟨g, 0, none⟩), .iface 119 (.pointer (some ⟨gx, 0, none⟩)), .pointer (some ⟨p, 0, none⟩)] w (LiftErr w) := by
  have HH := Lib.hid H
  clear H
  have hgx := lt_of_cell cx
  have hpx := lt_of_cell cp
  go_enter Try.func97, Try.ntmps97
  go_wp2_with (go_at_call 81; refine (getNum_any _ _ _).mono ?_; rintro e w' ⟨rfl, rfl⟩)
  go_region_held (fun w' => w'.cell? ⟨gx, 0, none⟩ = some (.float .f64 x) ∧ w'.cell? ⟨p, 0, none⟩ = some (.func (.func 78) #[] #[])) (first | go_keep | (refine ⟨(hbw.cell (p := ⟨gx, 0, none⟩) (by simpa using hgx)).trans ?_, (hbw.cell (p := ⟨p, 0, none⟩) (by simpa using hpx)).trans ?_⟩ <;> first | assumption | simpa [go_sem] using cx | simpa [go_sem] using cp))
    (first | (go_at_call 78; refine (HH.out _).mono ?_; rintro e w' ⟨rfl, rfl⟩) | (go_at_call 89; refine (dcheckErr_any _ _ hfr hV _ (by first | exact ci | simpa [go_sem] using ci) (by first | exact cl | simpa [go_sem] using cl)).mono ?_; rintro e w' ⟨u, rfl, hbw⟩))
  all_goals
    go_wp2
    go_ret2
    exact ⟨_, rfl, (Below.drew (Below.refl _ _)).trans hbw⟩

set_option maxRecDepth 100000 in
theorem liftExp_ok (i : Value) (gx p x fr : Nat) (V : Int) (hfr : fr < 18446744073709551616) (hV : val fr = some V) (H : ∀ w, Calls Try.prog 80 #[.float .f64 x] w fun e w' => e = .returned (.float .f64 fr) ∧ w = w') (w : World)
    (cx : w.cell? ⟨gx, 0, none⟩ = some (.float .f64 x)) (cp : w.cell? ⟨p, 0, none⟩ = some (.func (.func 80) #[] #[])) :
    Calls Try.prog 97 #[i, .iface 119 (.pointer (some ⟨gx, 0, none⟩)), .pointer (some ⟨p, 0, none⟩)] w (LiftN fr w) := by
  have HH := Lib.hid H
  have HV := Lib.hid hV
  clear H hV
  go_enter Try.func97, Try.ntmps97
  go_wp2_with (go_at_call 81; refine (getNum_any _ _ _).mono ?_; rintro e w' ⟨rfl, rfl⟩)
  go_region_held (fun w' => w'.cell? ⟨gx, 0, none⟩ = some (.float .f64 x) ∧ w'.cell? ⟨p, 0, none⟩ = some (.func (.func 80) #[] #[])) (go_keep)
    (first | (go_at_call 80; refine (HH.out _).mono ?_; rintro e w' ⟨rfl, rfl⟩) | (go_at_call 89; refine (dcheck_any _ _ _ hfr HV.out _).mono ?_; rintro e w' ⟨rfl, rfl⟩))
  all_goals
    go_wp2
    go_ret2
    exact ⟨w.drew, Below.drew (Below.refl _ _), rfl, rfl, rfl⟩

end Go.Proofs.Ytenibebomafdmaa
