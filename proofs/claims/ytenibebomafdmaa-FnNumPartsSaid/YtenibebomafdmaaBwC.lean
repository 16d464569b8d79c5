/- impl.NumBitAnd, NumBitOr, NumBitXor of words in range. -/
import Derived.Test.YtenibebomafdmaaBwB
namespace Go.Proofs.Ytenibebomafdmaa
open Go.RowKit Val

def FloatOk (b : Nat) (w : World) (e : Ending) (w' : World) : Prop := e = .returned (.tuple #[.float .f64 b, .bool true]) ∧ Below w.heap.size w w'

set_option maxRecDepth 100000 in
set_option maxHeartbeats 1000000 in
theorem partAnd_any (x y : Nat) (a b V : Int) (w : World) (hx : InR x a) (hy : InR y b) (hvr : val (intW (bits .and .i64 a b)) = some V) :
    Calls Try.prog 34 #[.float .f64 x, .float .f64 y] w fun e w' => e = .returned (.tuple #[.float .f64 (intW (bits .and .i64 a b)), .nilIface]) ∧ Below w.heap.size w w' := by
  go_enter Try.func34, Try.ntmps34
  go_wp2_with (first
    | (go_at_call 56; refine (biAnd_any _).mono ?_; rintro e w' ⟨rfl, rfl⟩)
    | (go_at_call 57; refine (num_any _ _).mono ?_; rintro e w' ⟨rfl, rfl⟩)
    | (go_at_call 96; refine (lift1And_any _ _ _ _ _ x y a b V _ hx hy hvr (by simp [go_sem]) (by simp [go_sem]) (by simp [go_sem]) (by simp [go_sem])).mono ?_; rintro e w' ⟨rfl, rfl⟩)
    | (go_at_call 55; refine (numOf_any _ (intW (bits .and .i64 a b)) _ (by simp [go_sem])).mono ?_; rintro e w' ⟨rfl, rfl⟩))
  go_ret2
  refine ⟨rfl, ?_⟩
  repeat (first | exact Below.refl _ _ | refine Below.alloc ?_ (by simp; try omega) _ | refine Below.drew ?_)

theorem bitAnd_any (x y : Nat) (a b V : Int) (w : World) (hx : InR x a) (hy : InR y b) (hvr : val (intW (bits .and .i64 a b)) = some V) :
    Calls Try.prog 13 #[.float .f64 x, .float .f64 y] w (FloatOk (intW (bits .and .i64 a b)) w) := by
  go_enter Try.func13, Try.ntmps13
  go_wp2_with (first
    | (go_at_call 34; refine (partAnd_any _ _ _ _ _ _ hx hy hvr).mono ?_; rintro e w' ⟨rfl, hb⟩)
    | (go_at_call 33; refine (number_any _ _).mono ?_; rintro e w' ⟨rfl, rfl⟩))
  go_ret2
  exact ⟨rfl, hb⟩

set_option maxRecDepth 100000 in
set_option maxHeartbeats 1000000 in
theorem partOr_any (x y : Nat) (a b V : Int) (w : World) (hx : InR x a) (hy : InR y b) (hvr : val (intW (bits .or .i64 a b)) = some V) :
    Calls Try.prog 43 #[.float .f64 x, .float .f64 y] w fun e w' => e = .returned (.tuple #[.float .f64 (intW (bits .or .i64 a b)), .nilIface]) ∧ Below w.heap.size w w' := by
  go_enter Try.func43, Try.ntmps43
  go_wp2_with (first
    | (go_at_call 65; refine (biOr_any _).mono ?_; rintro e w' ⟨rfl, rfl⟩)
    | (go_at_call 57; refine (num_any _ _).mono ?_; rintro e w' ⟨rfl, rfl⟩)
    | (go_at_call 96; refine (lift1Or_any _ _ _ _ _ x y a b V _ hx hy hvr (by simp [go_sem]) (by simp [go_sem]) (by simp [go_sem]) (by simp [go_sem])).mono ?_; rintro e w' ⟨rfl, rfl⟩)
    | (go_at_call 55; refine (numOf_any _ (intW (bits .or .i64 a b)) _ (by simp [go_sem])).mono ?_; rintro e w' ⟨rfl, rfl⟩))
  go_ret2
  refine ⟨rfl, ?_⟩
  repeat (first | exact Below.refl _ _ | refine Below.alloc ?_ (by simp; try omega) _ | refine Below.drew ?_)

theorem bitOr_any (x y : Nat) (a b V : Int) (w : World) (hx : InR x a) (hy : InR y b) (hvr : val (intW (bits .or .i64 a b)) = some V) :
    Calls Try.prog 23 #[.float .f64 x, .float .f64 y] w (FloatOk (intW (bits .or .i64 a b)) w) := by
  go_enter Try.func23, Try.ntmps23
  go_wp2_with (first
    | (go_at_call 43; refine (partOr_any _ _ _ _ _ _ hx hy hvr).mono ?_; rintro e w' ⟨rfl, hb⟩)
    | (go_at_call 33; refine (number_any _ _).mono ?_; rintro e w' ⟨rfl, rfl⟩))
  go_ret2
  exact ⟨rfl, hb⟩

set_option maxRecDepth 100000 in
set_option maxHeartbeats 1000000 in
theorem partXor_any (x y : Nat) (a b V : Int) (w : World) (hx : InR x a) (hy : InR y b) (hvr : val (intW (bits .xor .i64 a b)) = some V) :
    Calls Try.prog 44 #[.float .f64 x, .float .f64 y] w fun e w' => e = .returned (.tuple #[.float .f64 (intW (bits .xor .i64 a b)), .nilIface]) ∧ Below w.heap.size w w' := by
  go_enter Try.func44, Try.ntmps44
  go_wp2_with (first
    | (go_at_call 66; refine (biXor_any _).mono ?_; rintro e w' ⟨rfl, rfl⟩)
    | (go_at_call 57; refine (num_any _ _).mono ?_; rintro e w' ⟨rfl, rfl⟩)
    | (go_at_call 96; refine (lift1Xor_any _ _ _ _ _ x y a b V _ hx hy hvr (by simp [go_sem]) (by simp [go_sem]) (by simp [go_sem]) (by simp [go_sem])).mono ?_; rintro e w' ⟨rfl, rfl⟩)
    | (go_at_call 55; refine (numOf_any _ (intW (bits .xor .i64 a b)) _ (by simp [go_sem])).mono ?_; rintro e w' ⟨rfl, rfl⟩))
  go_ret2
  refine ⟨rfl, ?_⟩
  repeat (first | exact Below.refl _ _ | refine Below.alloc ?_ (by simp; try omega) _ | refine Below.drew ?_)

theorem bitXor_any (x y : Nat) (a b V : Int) (w : World) (hx : InR x a) (hy : InR y b) (hvr : val (intW (bits .xor .i64 a b)) = some V) :
    Calls Try.prog 24 #[.float .f64 x, .float .f64 y] w (FloatOk (intW (bits .xor .i64 a b)) w) := by
  go_enter Try.func24, Try.ntmps24
  go_wp2_with (first
    | (go_at_call 44; refine (partXor_any _ _ _ _ _ _ hx hy hvr).mono ?_; rintro e w' ⟨rfl, hb⟩)
    | (go_at_call 33; refine (number_any _ _).mono ?_; rintro e w' ⟨rfl, rfl⟩))
  go_ret2
  exact ⟨rfl, hb⟩
end Go.Proofs.Ytenibebomafdmaa
