/- laws.bits for &; the walk of laws.FnNumBitAnd. -/
import Derived.Test.YtenibebomafdmaaBaD
namespace Go.Proofs.Ytenibebomafdmaa
open Go.RowKit Val

def BoolB (b : Bool) (w : World) (e : Ending) (w' : World) : Prop := e = .returned (.bool b) ∧ Below w.heap.size w w'

set_option maxRecDepth 100000 in
set_option maxHeartbeats 1000000 in
theorem bitsAnd_any (v : Nat) (ok : Bool) (x y : Nat) (w : World) (h : ∀ a b, InR x a → InR y b → ok = true ∧ v = intW (bits .and .i64 a b)) :
    Calls Try.prog 14 #[.float .f64 v, .bool ok, .float .f64 x, .float .f64 y, .int .i64 15] w fun e w' => e = .returned (.bool true) ∧ w = w' := by
  have H := Lib.hid h
  clear h
  have hcr : ∀ w n, (Go.convert 2 28 (.int .i64 n)).run Try.prog w = .ok (.float .f64 (intW n)) w := fun w n => by kernel_rfl
  go_enter Try.func14, Try.ntmps14
  go_wp2_with fail
  refine (whole_any _ _).mono ?_
  rintro e w1 ⟨a, b1, rfl, ha, rfl⟩
  go_wp2_with fail
  refine (whole_any _ _).mono ?_
  rintro e w1 ⟨b, b2, rfl, hb, rfl⟩
  cases b1
  · go_wp2
    go_ret; exact ⟨rfl, rfl⟩
  cases b2
  · go_wp2
    go_ret; exact ⟨rfl, rfl⟩
  have A1 := ha rfl
  have B1 := hb rfl
  obtain ⟨rfl, rfl⟩ := H.out a b (inR_of_val A1.1 A1.2.1 A1.2.2) (inR_of_val B1.1 B1.2.1 B1.2.2)
  obtain ⟨V, hV⟩ := bits_fin .and a b
  have ho : FloatKind.f64.format.order (intW (bits .and .i64 a b)) (intW (bits .and .i64 a b)) = some Ordering.eq := order_self_of_val hV
  clear ha hb A1 B1 hV H
  go_wp2
  go_ret; exact ⟨rfl, rfl⟩

theorem andLaw_any (x y : Nat) (w : World) :
    Calls Try.prog 4 #[.float .f64 x, .float .f64 y] w (BoolB true w) := by
  go_enter Try.func4, Try.ntmps4
  go_wp2_with fail
  refine (numAnd_any x y _).mono ?_
  rintro e w1 ⟨v, ok, rfl, hq, hb⟩
  have HQ := Lib.hid hq
  clear hq
  go_wp2_with fail
  refine (bitsAnd_any v ok x y _ HQ.out).mono ?_
  rintro e w2 ⟨rfl, rfl⟩
  go_wp2
  go_ret
  exact ⟨rfl, hb⟩
end Go.Proofs.Ytenibebomafdmaa
