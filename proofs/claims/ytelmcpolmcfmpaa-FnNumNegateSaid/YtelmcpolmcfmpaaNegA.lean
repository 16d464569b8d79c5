/- The walk of laws.FnNumNegate: for every word it returns true and changes nothing that was there. -/
import Derived.Test.YtelmcpolmcfmpaaNumK
namespace Go.Proofs.Ytelmcpolmcfmpaa
open Go.RowKit
attribute [local go_sem] run_neg_float

def FloatOk (b : Nat) (w : World) (e : Ending) (w' : World) : Prop := e = .returned (.tuple #[.float .f64 b, .bool true]) ∧ Below w.heap.size w w'
def negW (b : Nat) : Nat := Op.negFloat .f64 b

theorem uminus_any (i : Value) (g b : Nat) (w : World) (hc : w.cell? ⟨g, 0, none⟩ = some (.float .f64 b)) :
    Calls Try.prog 40 #[i, .iface 112 (.pointer (some ⟨g, 0, none⟩))] w fun e w' =>
      e = .returned (.tuple #[.iface 112 (.pointer (some ⟨w.heap.size, 0, none⟩)), .nilIface]) ∧ w' = w.alloc (.cells #[.float .f64 (negW b)] 111) := by
  go_enter Try.func40, Try.ntmps40
  go_wp2_with (first
    | (go_at_call 46; refine (getNum_any _ _ _).mono ?_; rintro e w' ⟨rfl, rfl⟩)
    | (go_at_call 47; refine (makeNum_any _ _).mono ?_; rintro e w' ⟨rfl, rfl⟩))
  go_ret2
  exact ⟨rfl, rfl⟩

set_option maxRecDepth 100000 in
theorem partNeg_any (b : Nat) (w : World) :
    Calls Try.prog 34 #[.float .f64 b] w fun e w' => e = .returned (.tuple #[.float .f64 (negW b), .nilIface]) ∧ Below w.heap.size w w' := by
  go_enter Try.func34, Try.ntmps34
  go_wp2_with (first
    | (go_at_call 41; refine (num_any _ _).mono ?_; rintro e w' ⟨rfl, rfl⟩)
    | (go_at_call 40; refine (uminus_any _ _ b _ (by simp [go_sem])).mono ?_; rintro e w' ⟨rfl, rfl⟩)
    | (go_at_call 39; refine (numOf_any _ (negW b) _ (by simp [go_sem])).mono ?_; rintro e w' ⟨rfl, rfl⟩))
  go_ret2
  exact ⟨rfl, (((Below.refl _ _).alloc (Nat.le_refl _) _).alloc (by simp) _).alloc (by simp; omega) _⟩

theorem negate_any (b : Nat) (w : World) :
    Calls Try.prog 18 #[.float .f64 b] w (FloatOk (negW b) w) := by
  go_enter Try.func18, Try.ntmps18
  go_wp2_with (first
    | (go_at_call 34; refine (partNeg_any _ _).mono ?_; rintro e w' ⟨rfl, hb⟩)
    | (go_at_call 33; refine (number_any _ _).mono ?_; rintro e w' ⟨rfl, rfl⟩))
  go_ret2
  exact ⟨rfl, hb⟩

end Go.Proofs.Ytelmcpolmcfmpaa
