/- White space: mayBeSpace, isSpace, zzIsSpace. -/
import Derived.Test.YtenibebomafdmaaDoorStrA
namespace Go.Proofs.YtenibebomafdmaaDoor
open Go.RowKit Rune
set_option linter.unusedSimpArgs false

theorem retB {a b : Bool} (h : a = b) : Ending.returned (.bool a) = .returned (.bool b) := by rw [h]
/-- No code point of which some say that it is white space. -/
def Fine (n : Int) : Prop := n ≠ 11 ∧ n ≠ 133 ∧ n ≠ 160 ∧ n ≠ 5760 ∧ ¬(8192 ≤ n ∧ n ≤ 8207) ∧ n ≠ 8232 ∧ n ≠ 8233 ∧ n ≠ 8239 ∧ n ≠ 8287 ∧ n ≠ 12288
def isS (n : Int) : Bool := decide (n = 32 ∨ n = 9 ∨ n = 10 ∨ n = 13 ∨ n = 12)
def MayP (n : Int) (w : World) (e : Ending) (w' : World) : Prop := ∃ b, e = .returned (.bool b) ∧ w = w' ∧ (b = false → Fine n)
def IsP (n : Int) (w : World) (e : Ending) (w' : World) : Prop := e = .returned (.bool (isS n)) ∧ w = w'

set_option maxRecDepth 100000 in
set_option maxHeartbeats 4000000 in
theorem isSpace_any (n : Int) (w : World) : Calls Tryd.prog 10 #[.int .i64 n] w (IsP n w) := by
  go_enter Tryd.func10, Tryd.ntmps10
  go_wp2
  all_goals
    go_ret
    refine ⟨retB ?_, rfl⟩
    rw [Bool.eq_iff_iff]
    try simp only [beq_iff_eq, beq_eq_false_iff_ne, ne_eq] at *
    simp [isS]
    omega

set_option maxRecDepth 100000 in
set_option maxHeartbeats 4000000 in
theorem mayBe_any (n : Int) (w : World) : Calls Tryd.prog 9 #[.int .i64 n] w (MayP n w) := by
  go_enter Tryd.func9, Tryd.ntmps9
  go_wp2
  all_goals
    go_ret
    refine ⟨_, rfl, rfl, fun h => ?_⟩
    try simp only [beq_iff_eq, beq_eq_false_iff_ne, ne_eq] at *
    first
      | (simp at h; done)
      | (try simp at h
         unfold Fine
         omega)

set_option maxRecDepth 100000 in
set_option maxHeartbeats 4000000 in
theorem zzIs_any (n : Int) (hf : Fine n) (w : World) : Calls Tryd.prog 24 #[.int .i32 n] w (IsP n w) := by
  obtain ⟨h1, h2, h3, h4, h5, h6, h7, h8, h9, h10⟩ := hf
  go_enter Tryd.func24, Tryd.ntmps24
  go_wp2
  all_goals
    go_ret
    refine ⟨retB ?_, rfl⟩
    rw [Bool.eq_iff_iff]
    try simp only [beq_iff_eq, beq_eq_false_iff_ne, ne_eq] at *
    simp [isS]
    omega
end Go.Proofs.YtenibebomafdmaaDoor
