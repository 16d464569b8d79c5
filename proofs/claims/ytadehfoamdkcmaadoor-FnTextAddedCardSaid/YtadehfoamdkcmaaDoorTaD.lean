/- The law FnTextAdded: two strings, one behind the other, are written as both are. -/
import Derived.Test.YtadehfoamdkcmaaDoorTaC
import Derived.Lib.QuietBelow
namespace Go.Proofs.YtadehfoamdkcmaaDoor
open Go.RowKit Go.Sort Rune

theorem strtext_any (s : ByteArray) (l : List Nat) (h : Rem s 0 l) (hs : s.size ≤ 2000) (w : World) (hD : w.cell? ⟨5, 15, none⟩ = some (.int .u8 4)) : Calls Tryd.prog 17 #[.string s] w (UnP l w) := by
  go_enter Tryd.func17, Tryd.ntmps17
  go_wp2_with (go_at_call 22; refine (unparse_any s l h hs _ hD).mono ?_; rintro e w' ⟨rfl, hb⟩; refine Hid.out ?_)
  refine Lib.hid ?_
  have HB := Lib.hid hb
  clear hb
  go_wp2_with fail
  go_ret
  exact ⟨rfl, HB.out⟩
theorem text_any (s : ByteArray) (l : List Nat) (h : Rem s 0 l) (hs : s.size ≤ 2000) (w : World) (hD : w.cell? ⟨5, 15, none⟩ = some (.int .u8 4)) : Calls Tryd.prog 11 #[.string s] w (UnP l w) := by
  go_enter Tryd.func11, Tryd.ntmps11
  go_wp2_with (go_at_call 17; refine (strtext_any s l h hs _ hD).mono ?_; rintro e w' ⟨rfl, hb⟩; refine Hid.out ?_)
  refine Lib.hid ?_
  have HB := Lib.hid hb
  clear hb
  go_wp2_with fail
  go_ret
  exact ⟨rfl, HB.out⟩

theorem ba_size (l : List UInt8) : (ba l).size = l.length := by simp [ba, ByteArray.size]
theorem text_len {l : List Nat} (h : ∀ n ∈ l, okR n) : 2 ≤ (text l).length ∧ (text l).length ≤ 2 + 6 * l.length := by
  have := esc_len h
  unfold text
  simp only [List.length_append, List.length_cons, List.length_nil]
  omega
theorem text_add (a b : List Nat) : (ba (text a)).extract 0 ((text a).length - 1) ++ (ba (text b)).extract 1 (text b).length = ba (text (a ++ b)) := by
  apply ByteArray.ext
  apply Array.ext'
  rw [ByteArray.data_append, Array.toList_append, ByteArray.data_extract, ByteArray.data_extract, Array.toList_extract, Array.toList_extract, List.extract_eq_take_drop, List.extract_eq_take_drop]
  have e1 : (ba (text a)).data.toList = ([34] ++ esc a) ++ [34] := by simp [ba, text]
  have e2 : (ba (text b)).data.toList = [34] ++ (esc b ++ [34]) := by simp [ba, text]
  have l1 : (text a).length - 1 - 0 = ([34] ++ esc a).length := by simp [text]
  have l2 : (text b).length - 1 = (esc b ++ [34]).length := by simp [text]
  rw [e1, e2, l1, l2, List.drop_zero, List.take_left, List.drop_left' (by rfl), List.take_of_length_le (Nat.le_refl _)]
  simp [ba, text, esc_app]

def TrueB (w : World) (e : Ending) (w' : World) : Prop := e = .returned (.bool true) ∧ Below w.heap.size w w'
set_option maxRecDepth 100000 in
set_option maxHeartbeats 4000000 in
theorem law_any (a b : ByteArray) (w : World) (hza : a.size ≤ 9223372036854775807) (hzb : b.size ≤ 9223372036854775807) (hT : Lib.Utf8Tabs 0 1 w) (hD : w.cell? ⟨5, 15, none⟩ = some (.int .u8 4)) : Calls Tryd.prog 5 #[.string a, .string b] w (TrueB w) := by
  have HT := Lib.hid hT
  have HD := Lib.hid hD
  clear hT hD
  by_cases h1 : a.size ≤ 1000
  · by_cases h2 : b.size ≤ 1000
    · have q1 : ¬ (1000 : Int) < (a.size : Int) := by omega
      have q2 : ¬ (1000 : Int) < (b.size : Int) := by omega
      go_enter Tryd.func5, Tryd.ntmps5
      go_wp2_with (go_at_call 10; refine (Tryd.utf8_ValidString a _ hza HT.out).mono ?_; rintro e W1 ⟨rfl, hb1⟩; refine Hid.out ?_)
      refine Lib.hid ?_
      have HB1 := Lib.hid hb1
      clear hb1
      cases hva : Lib.validD a.data.toList with
      | false =>
        clear hva
        go_wp2_with fail
        go_ret
        exact ⟨rfl, HB1.out⟩
      | true =>
        obtain ⟨la, hra⟩ := (valid_utf _ _ (Nat.le_refl _) hva).rem
        have HRA := Lib.hid hra
        clear hva hra
        go_wp2_with (go_at_call 10; refine (Tryd.utf8_ValidString b _ hzb (Utf8Tabs_below HT.out HB1.out)).mono ?_; rintro e W2 ⟨rfl, hb2⟩; refine Hid.out ?_)
        refine Lib.hid ?_
        have HB2 := Lib.hid (HB1.out.trans (hb2.mono HB1.out.size))
        clear hb2
        cases hvb : Lib.validD b.data.toList with
        | false =>
          clear hvb
          go_wp2_with fail
          go_ret
          exact ⟨rfl, HB2.out⟩
        | true =>
          obtain ⟨lb, hrb⟩ := (valid_utf _ _ (Nat.le_refl _) hvb).rem
          have HRB := Lib.hid hrb
          clear hvb hrb
          have h5 := block_lt_of_cell HD.out
          have HD2 := Lib.hid ((HB2.out.cell (p := ⟨5, 15, none⟩) h5).trans HD.out)
          go_wp2_with (go_at_call 11; refine (text_any a la HRA.out (by omega) _ HD2.out).mono ?_; rintro e W3 ⟨rfl, hb3⟩; refine Hid.out ?_)
          refine Lib.hid ?_
          have HB3 := Lib.hid (HB2.out.trans (hb3.mono HB2.out.size))
          clear hb3
          have HD3 := Lib.hid ((HB3.out.cell (p := ⟨5, 15, none⟩) h5).trans HD.out)
          go_wp2_with (go_at_call 11; refine (text_any b lb HRB.out (by omega) _ HD3.out).mono ?_; rintro e W4 ⟨rfl, hb4⟩; refine Hid.out ?_)
          refine Lib.hid ?_
          have HB4 := Lib.hid (HB3.out.trans (hb4.mono HB3.out.size))
          clear hb4
          have HD4 := Lib.hid ((HB4.out.cell (p := ⟨5, 15, none⟩) h5).trans HD.out)
          have lA := HRA.out.len
          have lB := HRB.out.len
          have tA := text_len HRA.out.2.1
          have tB := text_len HRB.out.2.1
          have HADD := Lib.hid (text_add la lb)
          have HC := Lib.hid (fun d os => Calls.regrown_of (text_any (a ++ b) (la ++ lb) (HRA.out.app HRB.out) (by rw [ByteArray.size_append]; omega) (grow (redrawn W4 d) os) (((below_regrown W4 d os).cell (p := ⟨5, 15, none⟩) (block_lt_of_cell HD4.out)).trans HD4.out)))
          obtain ⟨S, hS⟩ : ∃ S, ba (text la) = S := ⟨_, rfl⟩
          obtain ⟨T, hTt⟩ : ∃ T, ba (text lb) = T := ⟨_, rfl⟩
          obtain ⟨U, hU⟩ : ∃ U, ba (text (la ++ lb)) = U := ⟨_, rfl⟩
          have zS : S.size = (text la).length := by rw [← hS, ba_size]
          have zT : T.size = (text lb).length := by rw [← hTt, ba_size]
          have hadd := HADD.out
          rw [← zS, ← zT, hS, hTt, hU] at hadd
          simp only [hU] at HC
          simp only [hS, hTt]
          clear HADD hS hTt hU
          obtain ⟨m, hm⟩ : ∃ m, S.size = m + 1 := ⟨S.size - 1, by omega⟩
          have hab : (a ++ b).size ≤ 2000 := by rw [ByteArray.size_append]; omega
          have r1 : 1 < S.size := by omega
          have r2 : 1 < T.size := by omega
          have r3 : S.size ≤ 20000 := by omega
          have r4 : T.size ≤ 20000 := by omega
          have q3 : (1 : Int) < (S.size : Int) := by omega
          have q4 : (1 : Int) < (T.size : Int) := by omega
          have q5 : (S.size : Int) - 1 = (m : Int) := by omega
          have hadd' : S.extract 0 m ++ T.extract 1 T.size = U := by rw [← hadd, hm]; rfl
          have q6 : (S.extract 0 m ++ T.extract 1 T.size).size ≤ 40000 := by
            rw [ByteArray.size_append]
            simp only [ByteArray.size_extract]
            omega
          have q7 : m ≤ S.size := by omega
          clear zS zT hadd hm tA tB lA lB
          have cT := HC.out
          go_wp2_with fail
          refine wp_region_quiet_below (by kernel_rfl) (by kernel_rfl) ?_
          repeat (go_big_quiet_step ((with_reducible exact cT _ _)))
          refine wpQuiet_nil ?_
          intro _ hw'
          obtain ⟨⟨dq, osq⟩, hw''⟩ := hw'
          subst hw''
          have hb5 := below_regrown W4 dq osq
          simp only at hb5 ⊢
          generalize grow (redrawn W4 dq) osq = W5 at hb5 ⊢
          have HB5 := Lib.hid (HB4.out.trans (hb5.mono HB4.out.size))
          clear hb5 cT
          go_wp2_with fail
          go_ret
          exact ⟨rfl, HB5.out⟩
    · have q2 : (1000 : Int) < (b.size : Int) := by omega
      have q1 : ¬ (1000 : Int) < (a.size : Int) := by omega
      go_enter Tryd.func5, Tryd.ntmps5
      go_wp2_with fail
      all_goals go_ret
      all_goals exact ⟨rfl, Below.refl _ _⟩
  · have q1 : (1000 : Int) < (a.size : Int) := by omega
    go_enter Tryd.func5, Tryd.ntmps5
    go_wp2_with fail
    all_goals go_ret
    all_goals exact ⟨rfl, Below.refl _ _⟩
end Go.Proofs.YtadehfoamdkcmaaDoor
