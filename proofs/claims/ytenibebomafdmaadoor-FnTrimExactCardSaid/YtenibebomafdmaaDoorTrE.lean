/- std.trim: builtinTrim, PartTrim, impl.TextTrim. -/
import Derived.Test.YtenibebomafdmaaDoorTrD
namespace Go.Proofs.YtenibebomafdmaaDoor
open Go.RowKit Rune

def trim (l : List Nat) : List Nat := trimR (trimL l)
theorem trim_sub {l : List Nat} {n : Nat} (h : n ∈ trim l) : n ∈ l := by
  unfold trim trimR at h
  have h1 : n ∈ (trimL l).reverse := (List.dropWhile_sublist _).subset (by simpa using h)
  rw [List.mem_reverse] at h1
  exact (List.dropWhile_sublist pS).subset h1
theorem trim_len (l : List Nat) : (trim l).length ≤ l.length := by
  have h1 := (List.dropWhile_sublist (l := (trimL l).reverse) pS).length_le
  have h2 := (List.dropWhile_sublist (l := l) pS).length_le
  unfold trim trimR
  rw [List.length_reverse]
  simp only [List.length_reverse] at h1
  exact Nat.le_trans h1 h2
theorem len_le_size {l : List Nat} (hv : ∀ n ∈ l, okR n) : l.length ≤ (ofR l).size := by rw [ofR_size]; exact enc_len hv

theorem retT {a b : ByteArray} {v : Value} (h : a = b) : Ending.returned (.tuple #[.string a, v]) = .returned (.tuple #[.string b, v]) := by rw [h]
def BiP (l : List Nat) (w : World) (e : Ending) (w' : World) : Prop := ∃ q, e = .returned (.tuple #[.iface 76 q, .nilIface]) ∧ StrV w' w'.heap.size q (trim l) ∧ Below w.heap.size w w'
set_option maxRecDepth 100000 in
set_option maxHeartbeats 1000000 in
theorem biTrim_any (i p : Value) (l : List Nat) (w : World) (hp : StrV w w.heap.size p l) (hv : ∀ n ∈ l, okR n) (hf : AllFine l) (hz : (ofR l).size ≤ 2000) (hT : Lib.Utf8Tabs 0 1 w) :
    Calls Tryd.prog 16 #[i, .iface 76 p] w (BiP l w) := by
  obtain ⟨g, A, c, rfl, hg, hc, hr⟩ := hp
  have HR := Lib.hid hr
  have HTS := Lib.hid (trimSpace_any l w hv hf hz hT)
  have hll := len_le_size hv
  have HMK := Lib.hid (fun W => makeStr_any (trim l) (fun n hn => hv n (trim_sub hn)) (by have := trim_len l; omega) W)
  have HC := Lib.hid hc
  clear hr hv hf hT hc
  go_enter Tryd.func16, Tryd.ntmps16
  go_wp2_with (go_at_call 18; refine (getStr_any _ _ _).mono ?_; rintro e w' ⟨rfl, rfl⟩)
  refine upon_method (52, .pointer (some ⟨g, 0, none⟩)) (by kernel_rfl) ?_
  go_wp2_with fail
  refine (getGo_any g l _ _ A c HC.out HR.out).mono ?_
  rintro e w' ⟨rfl, rfl⟩
  generalize ofR l = S at *
  go_wp2_with fail
  refine HTS.out.mono ?_
  rintro e w2 ⟨rfl, hb2⟩
  have HB2 := Lib.hid hb2
  clear hb2
  have HM2 := Lib.hid (HMK.out w2)
  have e1 : ofR (trim l) = ofR (trimR (trimL l)) := rfl
  rw [e1] at HM2
  generalize ofR (trimR (trimL l)) = S2 at *
  clear e1
  go_wp2_with fail
  refine HM2.out.mono ?_
  rintro e w3 ⟨q, rfl, hq, hb3⟩
  have HQ := Lib.hid hq
  have HB3 := Lib.hid (bnext HB2.out hb3)
  clear hq hb3
  go_wp2_with fail
  go_ret2
  exact ⟨q, rfl, HQ.out, HB3.out⟩

def PaP (l : List Nat) (w : World) (e : Ending) (w' : World) : Prop := e = .returned (.tuple #[.string (ofR (trim l)), .nilIface]) ∧ Below w.heap.size w w'
set_option maxRecDepth 100000 in
set_option maxHeartbeats 1000000 in
theorem partTrim_any (l : List Nat) (w : World) (hv : ∀ n ∈ l, okR n) (hf : AllFine l) (hz : (ofR l).size ≤ 2000) (hT : Lib.Utf8Tabs 0 1 w) :
    Calls Tryd.prog 12 #[.string (ofR l)] w (PaP l w) := by
  have hll := len_le_size hv
  have HS := Lib.hid (fun W => str_any l hv (by omega) W)
  have HBI := Lib.hid (fun i p W (hW : Below w.heap.size w W) (hp : StrV W W.heap.size p l) => biTrim_any i p l W hp hv hf hz (Utf8Tabs_below hT hW))
  clear hv hf hT
  generalize ofR l = S at *
  go_enter Tryd.func12, Tryd.ntmps12
  go_wp2_with fail
  refine (HS.out _).mono ?_
  rintro e w1 ⟨p, rfl, hp, hb1⟩
  have hbw := bnext ((Below.refl w.heap.size w).alloc (Nat.le_refl _) _) hb1
  have HB := Lib.hid hbw
  have HP := Lib.hid hp
  clear hp hb1 hbw
  have HBJ := Lib.hid (fun i => HBI.out i p w1 HB.out HP.out)
  go_wp2_with fail
  refine (HBJ.out _).mono ?_
  rintro e w2 ⟨q, rfl, hq, hb2⟩
  have HQ := Lib.hid (strOf_any q (trim l) w2 _ hq)
  have HB2 := Lib.hid (bnext HB.out hb2)
  clear hq hb2
  generalize hS2 : ofR (trim l) = S2 at *
  have HS2 := Lib.hid hS2
  clear hS2
  go_wp2_with fail
  refine HQ.out.mono ?_
  rintro e w3 ⟨rfl, hb3⟩
  have HB3 := Lib.hid (bnext HB2.out hb3)
  clear hb3
  go_wp2_with fail
  go_ret2
  exact ⟨retT HS2.out.symm, HB3.out⟩
def TxP (l : List Nat) (w : World) (e : Ending) (w' : World) : Prop := e = .returned (.tuple #[.string (ofR (trim l)), .bool true]) ∧ Below w.heap.size w w'
theorem text_any (s : ByteArray) (w : World) : Calls Tryd.prog 11 #[.string s, .nilIface] w fun e w' => e = .returned (.tuple #[.string s, .bool true]) ∧ w = w' := by
  go_enter Tryd.func11, Tryd.ntmps11
  go_wp2
  go_ret2
  exact ⟨rfl, rfl⟩
set_option maxRecDepth 100000 in
set_option maxHeartbeats 1000000 in
theorem textTrim_any (l : List Nat) (w : World) (hv : ∀ n ∈ l, okR n) (hf : AllFine l) (hz : (ofR l).size ≤ 2000) (hT : Lib.Utf8Tabs 0 1 w) :
    Calls Tryd.prog 6 #[.string (ofR l)] w (TxP l w) := by
  have HP := Lib.hid (partTrim_any l w hv hf hz hT)
  clear hv hf hT
  generalize ofR l = S at *
  go_enter Tryd.func6, Tryd.ntmps6
  go_wp2_with fail
  refine HP.out.mono ?_
  rintro e w1 ⟨rfl, hb1⟩
  have HB := Lib.hid hb1
  clear hb1
  generalize hS2 : ofR (trim l) = S2 at *
  have HS2 := Lib.hid hS2
  clear hS2
  go_wp2_with (go_at_call 11; refine (text_any _ _).mono ?_; rintro e w' ⟨rfl, rfl⟩)
  go_ret2
  exact ⟨retT HS2.out.symm, HB.out⟩
end Go.Proofs.YtenibebomafdmaaDoor
