/- std.char and std.codepoint of a code point; the walk of laws.FnCharBack. -/
import Derived.Test.YtenibebomafdmaaStrA
import Derived.Test.YtenibebomafdmaaBwA
namespace Go.Proofs.Ytenibebomafdmaa
open Go.RowKit Rune Val

def TextP (l : List Nat) (w : World) (e : Ending) (w' : World) : Prop := e = .returned (.tuple #[.string (ofR l), .bool true]) ∧ Below w.heap.size w w'

theorem order_gt' {x y : Nat} {a b : Int} (hx : val x = some a) (hy : val y = some b) (h : ¬ b < a) : (FloatKind.f64.format.order x y == some Ordering.gt) = false := by
  show (Ieee.double.order x y == _) = _
  rw [order_val hx hy]
  simp only [compare, compareOfLessAndEq]
  by_cases h1 : a < b
  · rw [if_pos h1]; rfl
  · rw [if_neg h1, if_pos (by omega)]; rfl
theorem order_lt' {x y : Nat} {a b : Int} (hx : val x = some a) (hy : val y = some b) (h : ¬ a < b) : (FloatKind.f64.format.order x y == some Ordering.lt) = false := by
  show (Ieee.double.order x y == _) = _
  rw [order_val hx hy]
  simp only [compare, compareOfLessAndEq]
  rw [if_neg h]
  split <;> rfl

theorem enc_one (n : Nat) : encB n = enc [n] := by simp [enc]
theorem ofR_one (n : Nat) : Utf8.encode (n : Int) = ofR [n] := ofR_lst (enc_one n)

/-- An integer's word, as an int32. -/
theorem toI32 {b : Nat} {n : Int} (h : val b = some (n * one)) (h1 : -2147483648 ≤ n) (h2 : n ≤ 2147483647) : floatToIntVal .f64 b .i32 = some n := by
  have := toInt_val h
  rw [tdiv_one] at this
  unfold floatToIntVal
  rw [show FloatKind.f64.decode b = Ieee.double.read b from rfl, this]
  simp only []
  have b1 : IntKind.i32.min ≤ n := by have : IntKind.i32.min = -2147483648 := rfl; omega
  have b2 : n ≤ IntKind.i32.max := by have : IntKind.i32.max = 2147483647 := rfl; omega
  rw [if_pos ⟨b1, b2⟩]

set_option maxRecDepth 100000 in
theorem biChar_any (i : Value) (g n : Nat) (hn : okR n) (w : World) (hc : w.cell? ⟨g, 0, none⟩ = some (.float .f64 (intW n))) :
    Calls Try.prog 61 #[i, .iface 119 (.pointer (some ⟨g, 0, none⟩))] w fun e w' => ∃ p, e = .returned (.tuple #[.iface 159 p, .nilIface]) ∧ StrV w' w'.heap.size p [n] ∧ Below w.heap.size w w' := by
  have hn' := hn
  unfold okR at hn'
  have hv : val (intW n) = some ((n : Int) * one) := val_intW _ (by omega)
  have hone : (0 : Int) < one := by have := one_pos; omega
  have h1 : (FloatKind.f64.format.order (intW n) 4697535882029170688 == some Ordering.gt) = false := by
    have : (4697535882029170688 : Nat) = intW 1114111 := by decide
    rw [this]
    refine order_gt' hv (val_intW _ (by omega)) ?_
    exact Int.not_lt.2 (Int.mul_le_mul_of_nonneg_right (by omega) (by omega))
  have h2 : (FloatKind.f64.format.order (intW n) 0 == some Ordering.lt) = false := by
    have : (0 : Nat) = intW 0 := by decide
    have h0 := val_intW 0 (by omega)
    rw [← this] at h0
    refine order_lt' hv h0 ?_
    exact Int.not_lt.2 (Int.mul_le_mul_of_nonneg_right (by omega) (by omega))
  have hci : floatToIntVal .f64 (intW n) .i32 = some (n : Int) := toI32 hv (by omega) (by omega)
  have hcx : ∀ w, (Go.convert 28 21 (.float .f64 (intW n))).run Try.prog w = .ok (.int .i32 n) w := fun w => run_convert_float_int w _ _ _ _ _ _ (by kernel_rfl) (by kernel_rfl) hci
  have hcs : ∀ w, (Go.convert 21 9 (.int .i32 n)).run Try.prog w = .ok (.string (ofR [n])) w := fun w => by rw [← ofR_one]; exact run_convert_int_string w _ _ _ _ (by kernel_rfl) (by kernel_rfl)
  clear hci hv
  go_enter Try.func61, Try.ntmps61
  go_wp2_with (first
    | (go_at_call 81; refine (getNum_any _ _ _).mono ?_; rintro e w' ⟨rfl, rfl⟩)
    | (go_at_call 83; refine (makeStr_any [n] (by simpa using hn) (by simp) _).mono ?_; rintro e w' ⟨p, rfl, hp, hb⟩))
  go_ret2
  exact ⟨p, rfl, hp, hb⟩

theorem text_any (s : ByteArray) (w : World) : Calls Try.prog 39 #[.string s, .nilIface] w fun e w' => e = .returned (.tuple #[.string s, .bool true]) ∧ w = w' := by
  go_enter Try.func39, Try.ntmps39
  go_wp2
  go_ret2
  exact ⟨rfl, rfl⟩

set_option maxRecDepth 100000 in
theorem partChar_any (n : Nat) (hn : okR n) (w : World) :
    Calls Try.prog 40 #[.float .f64 (intW n)] w fun e w' => e = .returned (.tuple #[.string (ofR [n]), .nilIface]) ∧ Below w.heap.size w w' := by
  go_enter Try.func40, Try.ntmps40
  go_wp2_with (first
    | (go_at_call 57; refine (num_any _ _).mono ?_; rintro e w' ⟨rfl, rfl⟩)
    | (go_at_call 61; refine (biChar_any _ _ n hn _ (by simp [go_sem])).mono ?_; rintro e w1 ⟨p, rfl, hp, hb⟩)
    | (go_at_call 60; refine (strOf_any p [n] _ _ hp).mono ?_; rintro e w2 ⟨rfl, hb2⟩))
  go_ret2
  refine ⟨rfl, Below.trans ?_ (Below.trans (hb.mono ?_) (hb2.mono ?_))⟩
  · repeat (first | exact Below.refl _ _ | refine Below.alloc ?_ (by simp; try omega) _ | refine Below.drew ?_)
  · simp; try omega
  · have := hb.size; simp at this; omega

theorem textChar_any (n : Nat) (hn : okR n) (w : World) :
    Calls Try.prog 20 #[.float .f64 (intW n)] w (TextP [n] w) := by
  go_enter Try.func20, Try.ntmps20
  go_wp2_with (first
    | (go_at_call 40; refine (partChar_any n hn _).mono ?_; rintro e w' ⟨rfl, hb⟩)
    | (go_at_call 39; refine (text_any _ _).mono ?_; rintro e w' ⟨rfl, rfl⟩))
  go_ret2
  exact ⟨rfl, hb⟩

set_option maxRecDepth 100000 in
theorem biCode_any (i : Value) (p : Value) (n : Nat) (w : World) (hp : StrV w w.heap.size p [n]) :
    Calls Try.prog 62 #[i, .iface 159 p] w fun e w' => ∃ g, e = .returned (.tuple #[.iface 119 (.pointer (some ⟨g, 0, none⟩)), .nilIface]) ∧ w'.cell? ⟨g, 0, none⟩ = some (.float .f64 (intW n)) ∧ Below w.heap.size w w' := by
  obtain ⟨g, A, c, rfl, hg, hc, hr⟩ := hp
  obtain ⟨b, off, rfl, hb, h0⟩ := hr.get (k := 0) (u := runeV n) (by simp [runes])
  have h0' : w.cell? ⟨b, off, none⟩ = some (.int .i32 n) := h0
  have hc' : w.cell? ⟨g, 0, none⟩ = some (.slice (some ⟨b, off, none⟩) 1 c) := hc
  have hcr : ∀ w n, (Go.convert 21 28 (.int .i32 n)).run Try.prog w = .ok (.float .f64 (intW n)) w := fun w n => by kernel_rfl
  clear hc hr h0
  go_enter Try.func62, Try.ntmps62
  go_wp2_with (go_at_call 84; refine (getStr_any _ _ _).mono ?_; rintro e w' ⟨rfl, rfl⟩)
  refine upon_method (139, .pointer (some ⟨g, 0, none⟩)) (by kernel_rfl) ?_
  go_wp2_with fail
  refine (strLen_any g 1 c _ _ hc').mono ?_
  rintro e w' ⟨rfl, rfl⟩
  go_wp2_with fail
  refine upon_method (136, .pointer (some ⟨g, 0, none⟩)) (by kernel_rfl) ?_
  go_wp2_with fail
  refine (getRunes_any g _ _ hc').mono ?_
  rintro e w' ⟨rfl, rfl⟩
  go_wp2_with (go_at_call 76; refine (makeNum_any _ _).mono ?_; rintro e w' ⟨rfl, rfl⟩)
  go_ret2
  exact ⟨_, rfl, by simp [go_sem], (Below.refl _ _).alloc (Nat.le_refl _) _⟩

set_option maxRecDepth 100000 in
theorem partCode_any (n : Nat) (hn : okR n) (w : World) :
    Calls Try.prog 41 #[.string (ofR [n])] w fun e w' => e = .returned (.tuple #[.float .f64 (intW n), .nilIface]) ∧ Below w.heap.size w w' := by
  go_enter Try.func41, Try.ntmps41
  go_wp2_with (first
    | (go_at_call 63; refine (str_any [n] (by simpa using hn) (by simp) _).mono ?_; rintro e w1 ⟨p, rfl, hp, hb⟩)
    | (go_at_call 62; refine (biCode_any _ p n _ hp).mono ?_; rintro e w2 ⟨g, rfl, hg, hb2⟩)
    | (go_at_call 55; refine (numOf_any g _ _ hg).mono ?_; rintro e w3 ⟨rfl, rfl⟩))
  go_ret2
  refine ⟨rfl, Below.trans ?_ (Below.trans (hb.mono ?_) (hb2.mono ?_))⟩
  · repeat (first | exact Below.refl _ _ | refine Below.alloc ?_ (by simp; try omega) _ | refine Below.drew ?_)
  · simp; try omega
  · have := hb.size; simp at this; omega

theorem textCode_any (n : Nat) (hn : okR n) (w : World) :
    Calls Try.prog 21 #[.string (ofR [n])] w fun e w' => e = .returned (.tuple #[.float .f64 (intW n), .bool true]) ∧ Below w.heap.size w w' := by
  go_enter Try.func21, Try.ntmps21
  go_wp2_with (first
    | (go_at_call 41; refine (partCode_any n hn _).mono ?_; rintro e w' ⟨rfl, hb⟩)
    | (go_at_call 33; refine (number_any _ _).mono ?_; rintro e w' ⟨rfl, rfl⟩))
  go_ret2
  exact ⟨rfl, hb⟩

theorem retB' {a b : Bool} (h : a = b) : Ending.returned (.bool a) = .returned (.bool b) := by rw [h]
def pointB (n : Int) : Bool := decide ((0 ≤ n ∧ n < 55296) ∨ (57344 ≤ n ∧ n ≤ 1114111))
theorem isPoint_any (n : Int) (w : World) : Calls Try.prog 19 #[.int .i64 n] w fun e w' => e = .returned (.bool (pointB n)) ∧ w = w' := by
  go_enter Try.func19, Try.ntmps19
  go_wp2
  all_goals
    go_ret
    refine ⟨retB' ?_, rfl⟩
    unfold pointB
    rw [Bool.eq_iff_iff]
    simp
    try omega

set_option maxRecDepth 100000 in
theorem charYes_any (n : Nat) (hn : okR n) (w : World) :
    Calls Try.prog 6 #[.int .i32 n] w fun e w' => e = .returned (.bool true) ∧ Below w.heap.size w w' := by
  have hpt : pointB n = true := by unfold okR at hn; unfold pointB; simp; omega
  have hcr : ∀ w n, (Go.convert 21 28 (.int .i32 n)).run Try.prog w = .ok (.float .f64 (intW n)) w := fun w n => by kernel_rfl
  have hbd : (n : Int) ≤ 1114111 := by unfold okR at hn; omega
  have he : FloatKind.f64.format.order (intW n) (intW n) = some Ordering.eq := order_self_of_val (val_intW n (by omega))
  go_enter Try.func6, Try.ntmps6
  go_wp2_with (first
    | (go_at_call 19; refine (isPoint_any _ _).mono ?_; rintro e w' ⟨rfl, rfl⟩)
    | (go_at_call 20; refine (textChar_any n hn _).mono ?_; rintro e w1 ⟨rfl, hb⟩)
    | (go_at_call 21; refine (textCode_any n hn _).mono ?_; rintro e w2 ⟨rfl, hb2⟩))
  go_ret
  exact ⟨rfl, hb.trans (hb2.mono hb.size)⟩
theorem charNo_any (n : Int) (hn : pointB n = false) (h1 : -2147483648 ≤ n) (h2 : n ≤ 2147483647) (w : World) :
    Calls Try.prog 6 #[.int .i32 n] w fun e w' => e = .returned (.bool true) ∧ Below w.heap.size w w' := by
  go_enter Try.func6, Try.ntmps6
  go_wp2_with (go_at_call 19; refine (isPoint_any _ _).mono ?_; rintro e w' ⟨rfl, rfl⟩)
  go_ret
  exact ⟨rfl, Below.refl _ _⟩
theorem charLaw_any (n : Int) (h1 : -2147483648 ≤ n) (h2 : n ≤ 2147483647) (w : World) : Calls Try.prog 6 #[.int .i32 n] w (fun e w' => e = .returned (.bool true) ∧ Below w.heap.size w w') := by
  cases h : pointB n with
  | false => exact charNo_any n h h1 h2 w
  | true =>
    have h' := h
    unfold pointB at h'
    simp at h'
    obtain ⟨m, rfl⟩ : ∃ m : Nat, n = (m : Int) := ⟨n.toNat, by omega⟩
    exact charYes_any m (by unfold okR; omega) w
end Go.Proofs.Ytenibebomafdmaa
