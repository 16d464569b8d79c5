/- The walk of laws.FnNumsTurned. -/
import Derived.Test.YtenibebomafdmaaTuE
namespace Go.Proofs.Ytenibebomafdmaa
open Go.RowKit

def TrueB (w : World) (e : Ending) (w' : World) : Prop := e = .returned (.bool true) ∧ Below w.heap.size w w'
def pk {α : Type} (a b : α) (m : Nat) : α := if m = 0 then a else b

set_option maxRecDepth 100000 in
set_option maxHeartbeats 1000000 in
theorem turned_any (v u : Value) (xs ys : List Nat) (w : World) (hv : RowV w w.heap.size v (fls xs)) (hu : RowV w w.heap.size u (fls ys)) (hx : xs.length ≤ maxLen) (hy : ys.length ≤ maxLen)
    (hbx : ∀ x ∈ xs, x < 18446744073709551616) (hby : ∀ x ∈ ys, x < 18446744073709551616) :
    Calls Try.prog 3 #[v, u] w (TrueB w) := by
  obtain ⟨A, c, rfl⟩ := hv.form'
  obtain ⟨A2, c2, rfl⟩ := hu.form'
  rw [fls_len] at hv hu ⊢
  have HV := Lib.hid hv
  have HU := Lib.hid hu
  have HX := Lib.hid hbx
  have HY := Lib.hid hby
  have HMX := Lib.hid hx
  have HMY := Lib.hid hy
  unfold maxLen at hx hy
  clear hv hu hbx hby
  by_cases h1 : 2147483647 < xs.length
  · have h1' : (2147483647 : Int) < (xs.length : Int) := by omega
    rw [fls_len]
    go_enter Try.func3, Try.ntmps3
    go_wp2
    go_ret
    exact ⟨rfl, Below.refl _ _⟩
  by_cases h2 : 2147483647 < ys.length
  · have h1' : (xs.length : Int) ≤ (2147483647 : Int) := by omega
    have h2' : (2147483647 : Int) < (ys.length : Int) := by omega
    rw [fls_len]
    go_enter Try.func3, Try.ntmps3
    go_wp2
    go_ret
    exact ⟨rfl, Below.refl _ _⟩
  have h1' : (xs.length : Int) ≤ (2147483647 : Int) := by omega
  have h2' : (ys.length : Int) ≤ (2147483647 : Int) := by omega
  rw [fls_len]
  go_enter Try.func3, Try.ntmps3
  go_wp2_with fail
  · exfalso; omega
  have hb0 : Below w.heap.size w (w.alloc (.cells #[.slice A xs.length c, .slice A2 ys.length c2] 22)) := (Below.refl _ _).alloc (Nat.le_refl _) _
  refine (finite7_any w.heap.size (pk A A2) (pk c c2) (pk xs ys) _ ?_ ?_ ?_ ?_).mono ?_
  · intro m hm
    rcases Nat.lt_or_ge m 1 with h | h
    · obtain rfl : m = 0 := by omega
      simp [go_sem, pk]
    · obtain rfl : m = 1 := by omega
      simp [go_sem, pk]
  · intro m hm
    rcases Nat.lt_or_ge m 1 with h | h
    · obtain rfl : m = 0 := by omega
      exact (HV.out.below hb0 (Nat.le_refl _)).more (by simp)
    · obtain rfl : m = 1 := by omega
      exact (HU.out.below hb0 (Nat.le_refl _)).more (by simp)
  · intro m hm; unfold pk; split <;> first | exact HMX.out | exact HMY.out
  · intro m hm; unfold pk; split <;> first | exact HX.out | exact HY.out
  rintro e w1 ⟨b, rfl, hfin, rfl⟩
  cases b with
  | false =>
    clear hfin
    go_wp2_with fail
    go_ret
    exact ⟨rfl, hb0⟩
  | true =>
    have hfx : FinL xs := hfin rfl 0 (by omega)
    have hfy : FinL ys := hfin rfl 1 (by omega)
    clear hfin
    have HFX := Lib.hid hfx
    have HFY := Lib.hid hfy
    have l1 := hfx.1
    have l2 := hfy.1
    clear hfx hfy
    have HB0 := Lib.hid hb0
    clear hb0
    go_wp2_with fail
    refine (numsAdd_any _ _ xs ys _ ((HV.out.below HB0.out (Nat.le_refl _)).more HB0.out.size) ((HU.out.below HB0.out (Nat.le_refl _)).more HB0.out.size) (by omega) (by omega)).mono ?_
    rintro e w2 ⟨z1, rfl, hz1, hb⟩
    have B2 := Lib.hid (HB0.out.trans (hb.mono HB0.out.size))
    clear hb
    go_wp2_with fail
    refine (numsRev_any z1 (xs ++ ys) _ hz1 (by simp; omega)).mono ?_
    rintro e w3 ⟨z2, rfl, hz2, hb⟩
    have B3 := Lib.hid (B2.out.trans (hb.mono B2.out.size))
    clear hb
    go_wp2_with fail
    refine (numsRev_any _ xs _ ((HV.out.below B3.out (Nat.le_refl _)).more B3.out.size) (by omega)).mono ?_
    rintro e w4 ⟨z3, rfl, hz3, hb⟩
    have B4 := Lib.hid (B3.out.trans (hb.mono B3.out.size))
    have Z2 := Lib.hid ((hz2.below hb (Nat.le_refl _)).more hb.size)
    clear hb
    go_wp2_with fail
    refine (numsRev_any _ ys _ ((HU.out.below B4.out (Nat.le_refl _)).more B4.out.size) (by omega)).mono ?_
    rintro e w5 ⟨z4, rfl, hz4, hb⟩
    have B5 := Lib.hid (B4.out.trans (hb.mono B4.out.size))
    have Z2 := Lib.hid ((Z2.out.below hb (Nat.le_refl _)).more hb.size)
    have Z3 := Lib.hid ((hz3.below hb (Nat.le_refl _)).more hb.size)
    clear hb
    go_wp2_with fail
    refine (numsAdd_any z4 z3 ys.reverse xs.reverse _ hz4 Z3.out (by simp; omega) (by simp; omega)).mono ?_
    rintro e w6 ⟨z5, rfl, hz5, hb⟩
    have B6 := Lib.hid (B5.out.trans (hb.mono B5.out.size))
    have Z2 := Lib.hid ((Z2.out.below hb (Nat.le_refl _)).more hb.size)
    have Z3 := Lib.hid ((Z3.out.below hb (Nat.le_refl _)).more hb.size)
    clear hb
    go_wp2_with fail
    refine (numsRev_any z3 xs.reverse _ Z3.out (by simp; omega)).mono ?_
    rintro e w7 ⟨z6, rfl, hz6, hb⟩
    have B7 := Lib.hid (B6.out.trans (hb.mono B6.out.size))
    have Z2 := Lib.hid ((Z2.out.below hb (Nat.le_refl _)).more hb.size)
    have Z5 := Lib.hid ((hz5.below hb (Nat.le_refl _)).more hb.size)
    clear hb
    rw [List.reverse_reverse] at hz6
    go_wp2_with fail
    refine (same7_any z2 z5 (xs ++ ys).reverse _ Z2.out (by rw [List.reverse_append]; exact Z5.out) (by simp; omega) (by
      intro x hx
      rw [List.mem_reverse, List.mem_append] at hx
      rcases hx with hx | hx
      · exact HFX.out.2 x hx
      · exact HFY.out.2 x hx)).mono ?_
    rintro e w8 ⟨rfl, hb⟩
    have B8 := Lib.hid (B7.out.trans (hb.mono B7.out.size))
    have Z6 := Lib.hid ((hz6.below hb (Nat.le_refl _)).more hb.size)
    clear hb
    go_wp2_with fail
    refine (same7_any z6 _ xs _ Z6.out ((HV.out.below B8.out (Nat.le_refl _)).more B8.out.size) (by omega) HFX.out.2).mono ?_
    rintro e w9 ⟨rfl, hb⟩
    go_wp2_with fail
    go_ret
    exact ⟨rfl, B8.out.trans (hb.mono B8.out.size)⟩
end Go.Proofs.Ytenibebomafdmaa
