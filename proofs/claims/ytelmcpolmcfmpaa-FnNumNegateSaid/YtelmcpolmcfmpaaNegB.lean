/- The walk of laws.FnNumNegate: for every word it returns true and changes nothing that was there. -/
import Derived.Test.YtelmcpolmcfmpaaNegA
import Derived.Test.YtelmcpolmcfmpaaFloatP
namespace Go.Proofs.Ytelmcpolmcfmpaa
open Go.RowKit
attribute [local go_sem] run_neg_float
def BoolBelowN (b : Bool) (w : World) (e : Ending) (w' : World) : Prop := e = .returned (.bool b) ∧ Below w.heap.size w w'

theorem negSelf (b : Nat) (h : finB b = true) : (FloatKind.f64.format.order (negW b) (negW b) == some .eq) = true := by
  have h1 : ordF b b = some .eq := by
    simp [finB, nanB] at h; exact h.1
  have := FloatP.neg_self b h1
  show (Ieee.double.order (negW b) (negW b) == some .eq) = true
  rw [show Ieee.double.order (negW b) (negW b) = some .eq from this]; rfl

theorem negLaw_any (b : Nat) (hb : b < 18446744073709551616) (w : World) :
    Calls Try.prog 6 #[.float .f64 b] w (BoolBelowN true w) := by
  have hf : finB b = true ∨ finB b = false := by cases finB b <;> simp
  rcases hf with hf | hf
  · have hs := negSelf b hf
    have he : Op.negFloat .f64 b = negW b := rfl
    go_enter Try.func6, Try.ntmps6
    go_wp2_with (first
      | (go_at_call 18; refine (negate_any _ _).mono ?_; rintro e w1 ⟨rfl, hb1⟩)
      | (go_at_call 19; refine (finiteOf1_any _ b hb _ (by simp [go_sem])).mono ?_; rintro e w' ⟨rfl, rfl⟩))
    go_ret
    exact ⟨rfl, hb1.alloc hb1.size _⟩
  · go_enter Try.func6, Try.ntmps6
    go_wp2_with (first
      | (go_at_call 18; refine (negate_any _ _).mono ?_; rintro e w1 ⟨rfl, hb1⟩)
      | (go_at_call 19; refine (finiteOf1_any _ b hb _ (by simp [go_sem])).mono ?_; rintro e w' ⟨rfl, rfl⟩))
    go_ret
    exact ⟨rfl, hb1.alloc hb1.size _⟩
end Go.Proofs.Ytelmcpolmcfmpaa
