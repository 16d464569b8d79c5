/- The first and the last code point of a string; zzTrimSpace. -/
import Derived.Test.YtenibebomafdmaaDoorTrB
import Derived.Test.YtenibebomafdmaaDoorSh
namespace Go.Proofs.YtenibebomafdmaaDoor
open Go.RowKit Rune
set_option linter.unusedSimpArgs false

theorem ofR_size (l : List Nat) : (ofR l).size = (enc l).length := by simp [ofR, ByteArray.size]
theorem first_of {n : Nat} {l : List Nat} (hv : okR n) : Lib.decodeGo (ofR (n :: l)) = (n, (encB n).length) := by
  have h1 := (encB_pos hv).1
  unfold Lib.decodeGo
  rw [if_neg (by rw [ofR_size, enc_cons, List.length_append]; omega)]
  refine decode_at hv fun k x hx => ?_
  rw [ofR_list, enc_cons, Nat.zero_add, List.getElem?_append_left (List.getElem?_eq_some_iff.1 hx).1]
  exact hx

theorem start_no {b : UInt8} {k : Nat} (h : b = UInt8.ofNat (128 + k % 64)) : Lib.runeStartB b = false := by
  subst h
  unfold Lib.runeStartB
  rw [ofN (by omega)]
  simp
  omega
theorem getD_right (p t : List UInt8) (j : Nat) : (p ++ t).getD (p.length + j) 0 = t.getD j 0 := by
  rw [List.getD_eq_getElem?_getD, List.getD_eq_getElem?_getD, List.getElem?_append_right (by omega), Nat.add_sub_cancel_left]
theorem last_by {p t : List UInt8} {n : Nat} (h1 : 1 ≤ t.length) (hlast : 128 ≤ (t.getD (t.length - 1) 0).toNat) (hs : Lib.lastStart (p ++ t) = p.length) (hd : Lib.decodeL t = (n, t.length)) : Lib.decodeLastL (p ++ t) = (n, t.length) := by
  unfold Lib.decodeLastL
  have hne : p ++ t ≠ [] := fun h => by have := congrArg List.length h; rw [List.length_append, List.length_nil] at this; omega
  have hl : (p ++ t).getD ((p ++ t).length - 1) 0 = t.getD (t.length - 1) 0 := by
    rw [List.length_append, show p.length + t.length - 1 = p.length + (t.length - 1) by omega, getD_right]
  rw [if_neg hne, hl, if_neg (by omega), hs, List.drop_left, hd]
  simp
theorem last_of {n : Nat} {l : List Nat} (hv : okR n) : Lib.decodeLastL (enc (l ++ [n])) = (n, (encB n).length) := by
  rw [enc_app, show enc [n] = encB n by simp [enc]]
  have hd : Lib.decodeL (encB n) = (n, (encB n).length) := by
    unfold Lib.decodeL
    refine decode_at hv fun k x hx => ?_
    simpa using hx
  generalize enc l = p
  by_cases h1 : n < 128
  · have e := enc1 h1
    rw [e]
    unfold Lib.decodeLastL
    have hl : (p ++ [UInt8.ofNat n]).getD ((p ++ [UInt8.ofNat n]).length - 1) 0 = UInt8.ofNat n := by
      rw [List.length_append, show p.length + [UInt8.ofNat n].length - 1 = p.length + 0 by simp, getD_right]
      rfl
    rw [if_neg (by simp), hl, ofN (by omega), if_pos h1]
    rfl
  by_cases h2 : n < 2048
  · have e := enc2 (by omega) h2
    rw [e] at hd ⊢
    refine last_by (by simp) ?_ ?_ hd
    · simp only [List.length_cons, List.length_nil, List.getD_cons_succ, List.getD_cons_zero]
      rw [ofN (by omega)]
      omega
    · refine Lib.lastStart_at2 _ p.length (by simp) ?_
      rw [show p.length = p.length + 0 from rfl, getD_right]
      simp only [List.getD_cons_zero]
      unfold Lib.runeStartB
      rw [ofN (by omega)]
      simp
      omega
  by_cases h3 : n < 65536
  · have e := enc3 hv (by omega) h3
    rw [e] at hd ⊢
    refine last_by (by simp) ?_ ?_ hd
    · simp only [List.length_cons, List.length_nil, List.getD_cons_succ, List.getD_cons_zero]
      rw [ofN (by omega)]
      omega
    · refine Lib.lastStart_at3 _ p.length (by simp) ?_ ?_
      · rw [getD_right]
        exact start_no rfl
      · rw [show p.length = p.length + 0 from rfl, getD_right]
        simp only [List.getD_cons_zero]
        unfold Lib.runeStartB
        rw [ofN (by omega)]
        simp
        omega
  · have hm : n ≤ 1114111 := by unfold okR at hv; omega
    have e := enc4 hv (by omega)
    rw [e] at hd ⊢
    refine last_by (by simp) ?_ ?_ hd
    · simp only [List.length_cons, List.length_nil, List.getD_cons_succ, List.getD_cons_zero]
      rw [ofN (by omega)]
      omega
    · refine Lib.lastStart_at4 _ p.length (by simp) ?_ ?_ ?_
      · rw [getD_right]
        exact start_no rfl
      · rw [getD_right]
        exact start_no rfl
      · rw [show p.length = p.length + 0 from rfl, getD_right]
        simp only [List.getD_cons_zero]
        unfold Lib.runeStartB
        rw [ofN (by omega)]
        simp
        omega

def strLen (v : Value) : Nat := match v with | .string s => s.size | _ => 0
def TsP (l : List Nat) (w : World) (e : Ending) (w' : World) : Prop := e = .returned (.string (ofR (trimR (trimL l)))) ∧ Below w.heap.size w w'
theorem ofR_drop (n : Nat) (l : List Nat) : (ofR (n :: l)).extract (encB n).length (ofR (n :: l)).size = ofR l := by
  refine ofR_of ?_
  rw [ByteArray.data_extract, Array.toList_extract, List.extract_eq_take_drop, ofR_list, enc_cons, List.drop_left, List.take_of_length_le]
  rw [ofR_size, enc_cons, List.length_append]
  omega
theorem ofR_take (n : Nat) (l : List Nat) : (ofR (l ++ [n])).extract 0 ((ofR (l ++ [n])).size - (encB n).length) = ofR l := by
  have e : enc (l ++ [n]) = enc l ++ encB n := by rw [enc_app]; simp [enc]
  refine ofR_of ?_
  rw [ByteArray.data_extract, Array.toList_extract, List.extract_eq_take_drop, ofR_list, ofR_size, e, List.length_append, List.drop_zero, Nat.sub_zero, Nat.add_sub_cancel, List.take_left]
end Go.Proofs.YtenibebomafdmaaDoor
