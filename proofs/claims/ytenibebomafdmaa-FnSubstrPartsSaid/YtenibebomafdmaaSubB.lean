/- impl.TextSubstr; the walk of laws.FnSubstrParts. -/
import Derived.Test.YtenibebomafdmaaSubA
import Derived.Test.YtenibebomafdmaaPtB
namespace Go.Proofs.Ytenibebomafdmaa
open Go.RowKit Rune Val

theorem bnext {w w1 w2 : World} (h1 : Below w.heap.size w w1) (h2 : Below w1.heap.size w1 w2) : Below w.heap.size w w2 := h1.trans (h2.mono h1.size)

set_option maxRecDepth 100000 in
theorem partSubstr_any (l : List Nat) (a n : Nat) (hv : ∀ n ∈ l, okR n) (hl : l.length ≤ 2000) (ha : a ≤ l.length) (hn : n ≤ 2000) (w : World) :
    Calls Try.prog 48 #[.string (ofR l), .float .f64 (intW a), .float .f64 (intW n)] w fun e w' => e = .returned (.tuple #[.string (ofR ((l.drop a).take (min n (l.length - a)))), .nilIface]) ∧ Below w.heap.size w w' := by
  go_enter Try.func48, Try.ntmps48
  go_wp2_with fail
  refine (strW_any l hv (by omega) _).mono ?_
  rintro e w1 ⟨p, rfl, hp, hb1⟩
  go_wp2_with fail
  refine (num_any _ _).mono ?_
  rintro e w2 ⟨rfl, rfl⟩
  go_wp2_with fail
  refine (num_any _ _).mono ?_
  rintro e w2 ⟨rfl, rfl⟩
  have hbx : Below w1.heap.size w1 ((w1.alloc (.cells #[.float .f64 (intW a)] 118)).alloc (.cells #[.float .f64 (intW n)] 118)) := ((Below.refl _ _).alloc (Nat.le_refl _) _).alloc (by simp) _
  have HP := Lib.hid ((hp.below hbx (Nat.le_refl _)).more hbx.size)
  have HBX := Lib.hid hbx
  clear hp hbx
  go_wp2_with fail
  refine (biSubstr_any _ p _ _ a n l _ HP.out hv hl ha hn (by simp [go_sem]) (by simp [go_sem])).mono ?_
  rintro e w3 ⟨q, rfl, hq, hb3⟩
  go_wp2_with fail
  refine (strOf_any q _ _ _ hq.toV).mono ?_
  rintro e w4 ⟨rfl, hb4⟩
  go_wp2_with fail
  go_ret2
  exact ⟨rfl, bnext (bnext (bnext (bnext ((Below.refl _ _).alloc (Nat.le_refl _) _) hb1) HBX.out) hb3) hb4⟩

theorem textSubstr_any (l : List Nat) (a n : Nat) (hv : ∀ n ∈ l, okR n) (hl : l.length ≤ 2000) (ha : a ≤ l.length) (hn : n ≤ 2000) (w : World) :
    Calls Try.prog 28 #[.string (ofR l), .float .f64 (intW a), .float .f64 (intW n)] w fun e w' => e = .returned (.tuple #[.string (ofR ((l.drop a).take (min n (l.length - a)))), .bool true]) ∧ Below w.heap.size w w' := by
  go_enter Try.func28, Try.ntmps28
  go_wp2_with (first
    | (go_at_call 48; refine (partSubstr_any l a n hv hl ha hn _).mono ?_; rintro e w' ⟨rfl, hb⟩)
    | (go_at_call 39; refine (text_any _ _).mono ?_; rintro e w' ⟨rfl, rfl⟩))
  go_ret2
  exact ⟨rfl, hb⟩

theorem textSubstr_at (l : List Nat) (a n x y : Nat) (hx : x = intW a) (hy : y = intW n) (hv : ∀ n ∈ l, okR n) (hl : l.length ≤ 2000) (ha : a ≤ l.length) (hn : n ≤ 2000) (w : World) :
    Calls Try.prog 28 #[.string (ofR l), .float .f64 x, .float .f64 y] w fun e w' => e = .returned (.tuple #[.string (ofR ((l.drop a).take (min n (l.length - a)))), .bool true]) ∧ Below w.heap.size w w' := by
  subst hx hy
  exact textSubstr_any l a n hv hl ha hn w

def U9P (s : ByteArray) (w : World) (e : Ending) (w' : World) : Prop :=
  (e = .returned (.tuple #[.slice none 0 0, .bool false]) ∧ Below w.heap.size w w') ∨
  ∃ v l, e = .returned (.tuple #[v, .bool true]) ∧ ReadTo s s.size l ∧ l.length ≤ 2000 ∧ RowV w' w'.heap.size v (units l) ∧ Below w.heap.size w w'
theorem units9_any (s : ByteArray) (hs : s.size ≤ 2000) (w : World) : Calls Try.prog 27 #[.string s] w (U9P s w) := by
  have hs' : (s.size : Int) ≤ 2000 := by omega
  go_enter Try.func27, Try.ntmps27
  go_wp2_with fail
  refine (units_any s (by omega) _).mono ?_
  rintro e w1 h
  rcases h with ⟨rfl, hb⟩ | ⟨v, l, rfl, hr, hv, hb⟩
  · go_wp2_with fail
    go_ret2
    exact .inl ⟨rfl, hb⟩
  · have HR := Lib.hid hr
    have HV := Lib.hid hv
    clear hr hv
    go_wp2_with fail
    go_ret2
    exact .inr ⟨v, l, rfl, HR.out, by have := HR.out.len; omega, HV.out, hb⟩
theorem units9_long (s : ByteArray) (hs : 2000 < s.size) (hs2 : s.size ≤ 9223372036854775807) (w : World) : Calls Try.prog 27 #[.string s] w (U9P s w) := by
  have hs' : (2000 : Int) < (s.size : Int) := by omega
  go_enter Try.func27, Try.ntmps27
  go_wp2_with fail
  go_ret2
  exact .inl ⟨rfl, Below.refl _ _⟩

set_option maxRecDepth 100000 in
set_option maxHeartbeats 1000000 in
theorem substr_any (s : ByteArray) (z : Int) (hs : s.size ≤ maxLen) (hz0 : 0 ≤ z) (hz : z ≤ 65535) (w : World) : Calls Try.prog 8 #[.string s, .int .u16 z] w fun e w' => e = .returned (.bool true) ∧ Below w.heap.size w w' := by
  unfold maxLen at hs
  by_cases h1 : 2147483647 < s.size
  · have h1' : (2147483647 : Int) < (s.size : Int) := by omega
    go_enter Try.func8, Try.ntmps8
    go_wp2
    go_ret
    exact ⟨rfl, Below.refl _ _⟩
  have h1' : (s.size : Int) ≤ (2147483647 : Int) := by omega
  have HU := Lib.hid fun w => (show Calls Try.prog 27 #[.string s] w (U9P s w) from if h : s.size ≤ 2000 then units9_any s h w else units9_long s (by omega) hs w)
  clear hs h1
  go_enter Try.func8, Try.ntmps8
  go_wp2_with fail
  refine (HU.out _).mono ?_
  rintro e w1 h
  rcases h with ⟨rfl, hb⟩ | ⟨v, l, rfl, hr, hll, hv, hb⟩
  · go_wp2_with fail
    go_ret
    exact ⟨rfl, hb⟩
  obtain ⟨A, c, rfl⟩ := hv.form'
  rw [units_len]
  obtain rfl : s = ofR l := ofR_of hr.all
  have hok := hr.1
  obtain ⟨k, hk⟩ : ∃ k : Nat, z % ((l.length : Int) + 1) = (k : Int) := ⟨(z % ((l.length : Int) + 1)).toNat, by
    have := Int.emod_nonneg z (show ((l.length : Int) + 1) ≠ 0 by omega)
    omega⟩
  have hkl : k ≤ l.length := by
    have := Int.emod_lt_of_pos z (show (0 : Int) < (l.length : Int) + 1 by omega)
    omega
  have hcr : ∀ w n, (Go.convert 3 28 (.int .i64 n)).run Try.prog w = .ok (.float .f64 (intW n)) w := fun w n => by kernel_rfl
  have hsum : ofR (l.take k) ++ ofR (l.drop k) = ofR l := by rw [← ofR_app, List.take_append_drop]
  have HOK := Lib.hid hok
  clear hr hv hok
  go_wp2_with fail
  refine (textSubstr_at l 0 k 0 _ (by decide) rfl HOK.out hll (by omega) (by omega) _).mono ?_
  rintro e w2 ⟨rfl, hb2⟩
  rw [List.drop_zero, Nat.sub_zero, Nat.min_eq_left hkl]
  go_wp2_with fail
  refine (textSubstr_at l k l.length _ _ rfl rfl HOK.out hll hkl hll _).mono ?_
  rintro e w3 ⟨rfl, hb3⟩
  rw [Nat.min_eq_right (by omega), List.take_of_length_le (by simp)]
  have hq : (ofR (l.take k)).size + (ofR (l.drop k)).size = (ofR l).size := by rw [← ByteArray.size_append, hsum]
  have HQ := Lib.hid hq
  clear hq
  go_wp2_with fail
  all_goals
    first
      | (exfalso; have hq := HQ.out; omega)
      | (go_ret; exact ⟨rfl, bnext (bnext hb hb2) hb3⟩)
end Go.Proofs.Ytenibebomafdmaa
