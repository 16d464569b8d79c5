/- The package's arrays of numbers, read again: numsOf; impl.NumsAdded, impl.NumsReverse. -/
import Derived.Test.YtenibebomafdmaaTuC
namespace Go.Proofs.Ytenibebomafdmaa
open Go.RowKit

theorem fls_snoc {xs : List Nat} {k : Nat} (h : k < xs.length) : fls (xs.take (k + 1)) = fls (xs.take k) ++ [.float .f64 (xs[k]'h)] := by
  rw [List.take_succ_eq_append_getElem h]
  simp only [fls, List.map_append, List.map_cons, List.map_nil]

def FlP (xs : List Nat) (w : World) (e : Ending) (w' : World) : Prop := ∃ v, e = .returned (.tuple #[v, .nilIface]) ∧ RowV w' w'.heap.size v (fls xs) ∧ Below w.heap.size w w'
def FlB (xs : List Nat) (w : World) (e : Ending) (w' : World) : Prop := ∃ v, e = .returned (.tuple #[v, .bool true]) ∧ RowV w' w'.heap.size v (fls xs) ∧ Below w.heap.size w w'

set_option maxRecDepth 100000 in
set_option maxHeartbeats 1000000 in
theorem numsOf_any (p : Value) (xs : List Nat) (w : World) (hp : ArrV w w.heap.size p xs) (hx : xs.length ≤ 1000) :
    Calls Try.prog 51 #[.iface 71 p, .nilIface] w (FlP xs w) := by
  obtain ⟨i0, hi0, hz0, hz1, hz2⟩ := info_parts flt_info
  obtain ⟨g1, A1, c1, ts, rfl, hg1, hc1, hr1, ht1⟩ := hp
  have h2 := assert_arr (.pointer (some ⟨g1, 0, none⟩))
  have hlen := ht1.1
  have HR1 := Lib.hid hr1
  have HT1 := Lib.hid ht1
  have HL := Lib.hid hlen
  clear hr1 ht1 hlen
  go_enter Try.func51, Try.ntmps51
  go_wp2
  go_loopw [6, 18] (fun v i wr => ∃ (k : Nat), k ≤ xs.length ∧ i = .int .i64 k ∧ wr.ownsRow w.heap.size 28 1 v k (fls (xs.take k)) ∧ Below w.heap.size w wr) (fun _ i _ => xs.length - (intOf i).toNat)
  case atStart => exact ⟨0, Nat.zero_le _, rfl, World.ownsRow_nil _ _ _ _, Below.refl _ _⟩
  case round =>
    obtain ⟨k, hk, rfl, hown, hb⟩ := hrel
    obtain ⟨A6, c6, rfl⟩ := own_form hown
    have HO := Lib.hid hown
    clear hown
    by_cases hlt : k < xs.length
    · have hlt' : (k : Int) < (xs.length : Int) := by omega
      have hsz := hb.size
      obtain ⟨gt, jt, htk, hgt, hjt, hct, hcj⟩ := (HT1.out.below hb (Nat.le_refl _)).get hlt
      obtain ⟨b, off, rfl, hbB, hcell⟩ := (HR1.out.below hb (Nat.le_refl _)).get htk
      have h3 := assert_num (.pointer (some ⟨jt, 0, none⟩))
      clear htk
      go_wp2_with (refine wpList_append_rowV _ rfl (.tmp 22) (.tmp 31) 22 rfl w.heap.size 28 i0 _ 1 8 Try.underlying22 hi0 hz0 hz1 hz2 rfl (by omega) (.slice A6 k c6) k (fls (xs.take k)) rfl (HO.out.alloc _) (some ⟨wr.heap.size, 0, none⟩) 1 1 [.float .f64 xs[k]] rfl rfl (fun _ => ⟨_, rfl, news_at rfl⟩) (by simp [Value.oneCell']) (by unfold maxLen; omega) (by omega) (by simp; omega) ?_; intro A5 c5 w5 hap)
      have hbe : Below w.heap.size w w5 := (hb.alloc hsz _).grown hap.grown (by simp; omega) (fun g hg => (HO.out.lt g hg).1)
      have how : w5.ownsRow w.heap.size 28 1 (.slice A5 (k + 1) c5) (k + 1) (fls (xs.take (k + 1))) := by
        rw [fls_snoc hlt]
        exact hap.own
      have HBE := Lib.hid hbe
      have HOWN := Lib.hid how
      clear hbe how hap
      go_wp2
      go_roundw
      case rel => exact ⟨k + 1, by omega, by go_num, HOWN.out, HBE.out⟩
      case measure => simp [intOf]; omega
    · obtain rfl : k = xs.length := by omega
      have hrow := own_rowV HO.out
      rw [List.take_length] at hrow
      have HRW := Lib.hid hrow
      clear hrow
      go_wp2
      go_ret2
      exact ⟨_, rfl, HRW.out, hb⟩

theorem listed_any (v : Value) (w : World) : Calls Try.prog 30 #[v, .nilIface] w fun e w' => e = .returned (.tuple #[v, .bool true]) ∧ w = w' := by
  go_enter Try.func30, Try.ntmps30
  go_wp2
  go_ret2
  exact ⟨rfl, rfl⟩

set_option maxRecDepth 100000 in
set_option maxHeartbeats 1000000 in
theorem partRev_any (v : Value) (xs : List Nat) (w : World) (hv : RowV w w.heap.size v (fls xs)) (hx : xs.length ≤ 1000) :
    Calls Try.prog 32 #[v] w (FlP xs.reverse w) := by
  have HV := Lib.hid hv
  clear hv
  go_enter Try.func32, Try.ntmps32
  go_wp2_with fail
  refine (nums_any v xs _ (HV.out.below ((Below.refl _ _).alloc (Nat.le_refl _) _) (Nat.le_refl _) |>.more (by simp)) hx).mono ?_
  rintro e w1 ⟨p, rfl, hp, hb1⟩
  go_wp2_with fail
  refine (reverse_any _ p xs _ hp hx).mono ?_
  rintro e w2 ⟨q, rfl, hq, hb2⟩
  go_wp2_with fail
  refine (numsOf_any q _ _ hq (by simpa using hx)).mono ?_
  rintro e w3 ⟨u, rfl, hu, hb3⟩
  go_wp2_with fail
  go_ret2
  have h0 : Below w.heap.size w w1 := ((Below.refl _ _).alloc (Nat.le_refl _) _).trans (hb1.mono (by simp))
  exact ⟨u, rfl, hu, h0.trans ((hb2.mono h0.size).trans (hb3.mono (Nat.le_trans h0.size hb2.size)))⟩

set_option maxRecDepth 100000 in
set_option maxHeartbeats 1000000 in
theorem partAdd_any (v u : Value) (xs ys : List Nat) (w : World) (hv : RowV w w.heap.size v (fls xs)) (hu : RowV w w.heap.size u (fls ys)) (hx : xs.length ≤ 500) (hy : ys.length ≤ 500) :
    Calls Try.prog 31 #[v, u] w (FlP (xs ++ ys) w) := by
  have HV := Lib.hid hv
  have HU := Lib.hid hu
  clear hv hu
  go_enter Try.func31, Try.ntmps31
  go_wp2_with fail
  refine (nums_any v xs _ HV.out (by omega)).mono ?_
  rintro e w1 ⟨p, rfl, hp, hb1⟩
  go_wp2_with fail
  refine (nums_any u ys _ ((HU.out.below hb1 (Nat.le_refl _)).more hb1.size) (by omega)).mono ?_
  rintro e w2 ⟨q, rfl, hq, hb2⟩
  go_wp2_with fail
  refine (concat_any p q xs ys _ ((hp.below hb2 (Nat.le_refl _)).more hb2.size) hq hx hy).mono ?_
  rintro e w3 ⟨r, rfl, hr, hb3⟩
  go_wp2_with fail
  refine (numsOf_any r _ _ hr (by simp; omega)).mono ?_
  rintro e w4 ⟨z, rfl, hz, hb4⟩
  go_wp2_with fail
  go_ret2
  exact ⟨z, rfl, hz, hb1.trans ((hb2.mono hb1.size).trans ((hb3.mono (Nat.le_trans hb1.size hb2.size)).trans (hb4.mono (Nat.le_trans hb1.size (Nat.le_trans hb2.size hb3.size)))))⟩

theorem numsRev_any (v : Value) (xs : List Nat) (w : World) (hv : RowV w w.heap.size v (fls xs)) (hx : xs.length ≤ 1000) :
    Calls Try.prog 11 #[v] w (FlB xs.reverse w) := by
  have HV := Lib.hid hv
  clear hv
  go_enter Try.func11, Try.ntmps11
  go_wp2_with fail
  refine (partRev_any v xs _ HV.out hx).mono ?_
  rintro e w1 ⟨u, rfl, hu, hb⟩
  go_wp2_with (go_at_call 30; refine (listed_any _ _).mono ?_; rintro e w2 ⟨rfl, rfl⟩)
  go_ret2
  exact ⟨u, rfl, hu, hb⟩
theorem numsAdd_any (v u : Value) (xs ys : List Nat) (w : World) (hv : RowV w w.heap.size v (fls xs)) (hu : RowV w w.heap.size u (fls ys)) (hx : xs.length ≤ 500) (hy : ys.length ≤ 500) :
    Calls Try.prog 10 #[v, u] w (FlB (xs ++ ys) w) := by
  have HV := Lib.hid hv
  have HU := Lib.hid hu
  clear hv hu
  go_enter Try.func10, Try.ntmps10
  go_wp2_with fail
  refine (partAdd_any v u xs ys _ HV.out HU.out hx hy).mono ?_
  rintro e w1 ⟨z, rfl, hz, hb⟩
  go_wp2_with (go_at_call 30; refine (listed_any _ _).mono ?_; rintro e w2 ⟨rfl, rfl⟩)
  go_ret2
  exact ⟨z, rfl, hz, hb⟩
end Go.Proofs.Ytenibebomafdmaa
