/- The walk of laws.FnNumBits. -/
import Derived.Test.YtenibebomafdmaaBwD
import Derived.Test.YtenibebomafdmaaWhole
namespace Go.Proofs.Ytenibebomafdmaa
open Go.RowKit Val BitP

def BoolB (b : Bool) (w : World) (e : Ending) (w' : World) : Prop := e = .returned (.bool b) ∧ Below w.heap.size w w'

theorem rng_inR {n : Int} (h : Rng n) : InR (intW n) n := inR_of_val (val_intW n (by have := h.1; have := h.2; omega)) (by have := h.1; omega) (by have := h.2; omega)
theorem rng_val {n : Int} (h : Rng n) : val (intW n) = some (n * one) := val_intW n (by have := h.1; have := h.2; omega)
theorem eq_of_vals {x y : Nat} {V : Int} (h1 : val x = some V) (h2 : val y = some V) : FloatKind.f64.format.order x y = some Ordering.eq := by
  show Ieee.double.order x y = _
  rw [order_val h1 h2]; simp [compare, compareOfLessAndEq]

/-- |x| < 2 to the power of 52, of an integer's word. -/
theorem rng_of_abs {x : Nat} {n : Int} (hx : val x = some (n * one)) (h : ¬ FloatKind.f64.format.order (absW x) 4841369599423283200 = some Ordering.gt ∧ ¬ FloatKind.f64.format.order (absW x) 4841369599423283200 = some Ordering.eq) : n.natAbs < 4503599627370496 := by
  have c : val 4841369599423283200 = some (4503599627370496 * (one : Int)) := by rw [show (4841369599423283200 : Nat) = intW 4503599627370496 by decide]; exact val_intW _ (by decide)
  have ha := abs_val hx
  rw [Int.natAbs_mul, Int.natAbs_natCast, Int.natCast_mul] at ha
  have ho : FloatKind.f64.format.order (absW x) 4841369599423283200 = some (compare (n.natAbs : Int) 4503599627370496) := by
    show Ieee.double.order _ _ = _
    rw [order_val ha c, compare_mul _ _ _ one_pos]
  rw [ho] at h
  simp only [compare, compareOfLessAndEq] at h
  by_cases h1 : (n.natAbs : Int) < 4503599627370496
  · omega
  · rw [if_neg h1] at h
    by_cases h2 : (n.natAbs : Int) = 4503599627370496
    · rw [if_pos h2] at h; simp at h
    · rw [if_neg h2] at h; simp at h

set_option maxRecDepth 100000 in
set_option maxHeartbeats 4000000 in
theorem bitsLaw_any (x y : Nat) (hx : x < 18446744073709551616) (hy : y < 18446744073709551616) (w : World) :
    Calls Try.prog 7 #[.float .f64 x, .float .f64 y] w (BoolB true w) := by
  go_enter Try.func7, Try.ntmps7
  go_wp2_with fail
  refine (whole_any _ _).mono ?_
  rintro e w1 ⟨a, b1, rfl, ha, rfl⟩
  go_wp2_with fail
  refine (whole_any _ _).mono ?_
  rintro e w1 ⟨b, b2, rfl, hb, rfl⟩
  cases b1
  · go_wp2
    go_ret; exact ⟨rfl, Below.refl _ _⟩
  cases b2
  · go_wp2
    go_ret; exact ⟨rfl, Below.refl _ _⟩
  have HA := Lib.hid (ha rfl)
  have HB := Lib.hid (hb rfl)
  clear ha hb
  go_wp2_with (go_at_call 18; first | (refine (abs_any _ hx _).mono ?_; rintro e w' ⟨rfl, rfl⟩) | (refine (abs_any _ hy _).mono ?_; rintro e w' ⟨rfl, rfl⟩))
  all_goals first
    | (go_ret; exact ⟨rfl, Below.refl _ _⟩)
    | skip
  have g1 : ¬ FloatKind.f64.format.order (absW x) 4841369599423283200 = some Ordering.gt ∧ ¬ FloatKind.f64.format.order (absW x) 4841369599423283200 = some Ordering.eq := by assumption
  have g2 : (FloatKind.f64.format.order (absW y) 4841369599423283200 == some Ordering.gt) = false ∧ (FloatKind.f64.format.order (absW y) 4841369599423283200 == some Ordering.eq) = false := by assumption
  have n1 := rng_of_abs HA.out.1 g1
  have n2 := rng_of_abs HB.out.1 (by simpa using g2)
  have Ra : Rng a := ⟨by omega, by omega⟩
  have Rb : Rng b := ⟨by omega, by omega⟩
  have Ix := inR_of_val HA.out.1 HA.out.2.1 HA.out.2.2
  have Iy := inR_of_val HB.out.1 HB.out.2.1 HB.out.2.2
  have C1 := Lib.hid fun w => bitAnd_any x y a b _ w Ix Iy (rng_val (and_rng Ra Rb))
  have C2 := Lib.hid fun w => bitOr_any x y a b _ w Ix Iy (rng_val (or_rng Ra Rb))
  have C3 := Lib.hid fun w => bitXor_any x y a b _ w Ix Iy (rng_val (xor_rng Ra Rb))
  obtain ⟨r, hsub, hvr⟩ := sub_val (K := bits .xor .i64 a b) (rng_val (or_rng Ra Rb)) (rng_val (and_rng Ra Rb)) (by rw [← Int.sub_mul, or_sub Ra Rb]) (by have := (xor_rng Ra Rb).1; have := (xor_rng Ra Rb).2; omega)
  have C4 := Lib.hid fun w => minus_any _ _ r _ w hsub hvr
  have C5 : Hid (∀ w, Calls Try.prog 24 #[.float .f64 (intW (bits .xor .i64 a b)), .float .f64 y] w (FloatOk (intW a) w)) := Lib.hid fun w => by
    have h := bitXor_any (intW (bits .xor .i64 a b)) y (bits .xor .i64 a b) b _ w (rng_inR (xor_rng Ra Rb)) Iy (rng_val (xor_rng (xor_rng Ra Rb) Rb))
    rw [xor_back Ra Rb] at h
    exact h
  have C6 := Lib.hid fun w => bitNot_any x a Ix.to w
  have C7 := Lib.hid fun w => bitNot_any y b Iy.to w
  have C8 : Hid (∀ w, Calls Try.prog 26 #[.float .f64 (intW (bits .xor .i64 (-1) a))] w (FloatOk (intW a) w)) := Lib.hid fun w => by
    have h := bitNot_any (intW (bits .xor .i64 (-1) a)) _ (rng_inR (not_rng Ra)).to w
    rw [BitP.not_not Ra] at h
    exact h
  have C9 := Lib.hid fun w => bitNot_any (intW (bits .and .i64 a b)) _ (rng_inR (and_rng Ra Rb)).to w
  have C10 : Hid (∀ w, Calls Try.prog 23 #[.float .f64 (intW (bits .xor .i64 (-1) a)), .float .f64 (intW (bits .xor .i64 (-1) b))] w (FloatOk (intW (bits .xor .i64 (-1) (bits .and .i64 a b))) w)) := Lib.hid fun w => by
    have h := bitOr_any (intW (bits .xor .i64 (-1) a)) (intW (bits .xor .i64 (-1) b)) _ _ _ w (rng_inR (not_rng Ra)) (rng_inR (not_rng Rb)) (rng_val (or_rng (not_rng Ra) (not_rng Rb)))
    rw [← nand_nor Ra Rb] at h
    exact h
  have e1 := eq_of_vals hvr (rng_val (xor_rng Ra Rb))
  have e2 := eq_of_vals (rng_val Ra) HA.out.1
  have e3 := eq_of_vals (rng_val (not_rng (and_rng Ra Rb))) (rng_val (not_rng (and_rng Ra Rb)))
  clear g1 g2 n1 n2 Ra Rb Ix Iy hsub hvr HA HB
  generalize intW (bits .xor .i64 (-1) (bits .and .i64 a b)) = wnand at *
  generalize intW (bits .and .i64 a b) = wand at *
  generalize intW (bits .or .i64 a b) = wor at *
  generalize intW (bits .xor .i64 a b) = wxor at *
  generalize intW (bits .xor .i64 (-1) a) = wnx at *
  generalize intW (bits .xor .i64 (-1) b) = wny at *
  generalize intW a = wa at *
  refine (C1.out _).mono ?_
  rintro e w1 ⟨rfl, q1⟩
  go_wp2_with fail
  refine (C2.out _).mono ?_
  rintro e w2 ⟨rfl, q2⟩
  replace q2 := q1.trans (q2.mono q1.size)
  go_wp2_with fail
  refine (C3.out _).mono ?_
  rintro e w3 ⟨rfl, q3⟩
  replace q3 := q2.trans (q3.mono q2.size)
  go_wp2_with fail
  refine (C4.out _).mono ?_
  rintro e w4 ⟨rfl, q4⟩
  replace q4 := q3.trans (q4.mono q3.size)
  go_wp2_with fail
  refine (C5.out _).mono ?_
  rintro e w5 ⟨rfl, q5⟩
  replace q5 := q4.trans (q5.mono q4.size)
  go_wp2_with fail
  refine (C6.out _).mono ?_
  rintro e w6 ⟨rfl, q6⟩
  replace q6 := q5.trans (q6.mono q5.size)
  go_wp2_with fail
  refine (C7.out _).mono ?_
  rintro e w7 ⟨rfl, q7⟩
  replace q7 := q6.trans (q7.mono q6.size)
  go_wp2_with fail
  refine (C8.out _).mono ?_
  rintro e w8 ⟨rfl, q8⟩
  replace q8 := q7.trans (q8.mono q7.size)
  go_wp2_with fail
  refine (C9.out _).mono ?_
  rintro e w9 ⟨rfl, q9⟩
  replace q9 := q8.trans (q9.mono q8.size)
  go_wp2_with fail
  refine (C10.out _).mono ?_
  rintro e w10 ⟨rfl, q10⟩
  replace q10 := q9.trans (q10.mono q9.size)
  go_wp2
  go_ret
  exact ⟨rfl, q10⟩
end Go.Proofs.Ytenibebomafdmaa
