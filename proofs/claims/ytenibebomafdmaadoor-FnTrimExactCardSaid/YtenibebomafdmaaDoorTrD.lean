/- The contract of zzTrimSpace. -/
import Derived.Test.YtenibebomafdmaaDoorTrC
namespace Go.Proofs.YtenibebomafdmaaDoor
open Go.RowKit Rune
set_option linter.unusedSimpArgs false

theorem bnext {w w1 w2 : World} (h1 : Below w.heap.size w w1) (h2 : Below w1.heap.size w1 w2) : Below w.heap.size w w2 := h1.trans (h2.mono h1.size)

theorem retS {a b : ByteArray} (h : a = b) : Ending.returned (.string a) = .returned (.string b) := by rw [h]
set_option maxRecDepth 100000 in
set_option maxHeartbeats 4000000 in
theorem trimSpace_any (l : List Nat) (w : World) (hv : ∀ n ∈ l, okR n) (hf : AllFine l) (hz : (ofR l).size ≤ 2000) (hT : Lib.Utf8Tabs 0 1 w) : Calls Tryd.prog 20 #[.string (ofR l)] w (TsP l w) := by
  have HV := Lib.hid hv
  have HF := Lib.hid hf
  have HT := Lib.hid hT
  clear hv hf hT
  go_enter Tryd.func20, Tryd.ntmps20
  go_wp2
  go_loopw [0] (fun v wr => ∃ l', v = .string (ofR l') ∧ (ofR l').size ≤ 2000 ∧ Hid (∀ n ∈ l', n ∈ l) ∧ Hid (trimL l' = trimL l) ∧ Below w.heap.size w wr) (fun v _ => strLen v)
  case atStart => exact ⟨l, rfl, hz, Lib.hid (fun n h => h), Lib.hid rfl, Below.refl _ _⟩
  case round =>
    obtain ⟨l', rfl, hz', HS, HE, hb⟩ := hrel
    cases l' with
    | nil =>
      have HB := Lib.hid hb
      clear hb
      have hs0 : (ofR []).size = 0 := by rw [ofR_size]; rfl
      go_wp2_with fail
      go_loopw [0] (fun v wr => ∃ l', v = .string (ofR l') ∧ (ofR l').size ≤ 2000 ∧ Hid (∀ n ∈ l', n ∈ l) ∧ Hid (trimR l' = trimR (trimL l)) ∧ Below w.heap.size w wr) (fun v _ => strLen v)
      case atStart => exact ⟨[], rfl, by omega, Lib.hid (by simp), Lib.hid (by rw [← HE.out]; rfl), HB.out⟩
      case round =>
        obtain ⟨l', rfl, hz', HS, HE, hb⟩ := hrel
        rcases List.eq_nil_or_concat l' with rfl | ⟨l2, y, rfl⟩
        · have HB := Lib.hid hb
          clear hb
          have HSS := Lib.hid (show ofR [] = ofR (trimR (trimL l)) by rw [← HE.out, trimR_nil])
          have hs0 : (ofR []).size = 0 := by rw [ofR_size]; rfl
          have hs0' : ¬ (0 : Int) < ((ofR []).size : Int) := by omega
          generalize ofR [] = S at *
          go_wp2_with fail
          go_ret
          exact ⟨retS HSS.out, HB.out⟩
        · rw [List.concat_eq_append] at HS HE hz' ⊢
          have hx := HV.out y (HS.out y (by simp))
          have hfx := HF.out y (HS.out y (by simp))
          have h1 := encB_pos hx
          have hsz : (ofR (l2 ++ [y])).size = (ofR l2).size + (encB y).length := by rw [ofR_size, ofR_size, enc_app, List.length_append]; simp [enc]
          have hd := Tryd.utf8_DecodeLastRuneInString (ofR (l2 ++ [y])) wr (by omega) (Utf8Tabs_below HT.out hb)
          rw [ofR_list, last_of hx] at hd
          have HDR := Lib.hid (ofR_take y l2)
          have HD := Lib.hid hd
          have HB := Lib.hid hb
          clear hd hb
          have HSS := Lib.hid (show ofR (l2 ++ [y]) = _ from rfl)
          generalize hSS : ofR (l2 ++ [y]) = S at *
          have HS2 := Lib.hid hSS
          clear hSS HSS
          generalize (encB y).length = d at *
          obtain ⟨m, hm⟩ : ∃ m, (ofR l2).size = m := ⟨_, rfl⟩
          rw [hm] at hsz
          have HM := Lib.hid hm
          clear hm
          have hpos : (0 : Int) < (S.size : Int) := by omega
          have hdl : d ≤ S.size := by omega
          have hml : m ≤ S.size := by omega
          have hd4 : (d : Int) ≤ 4 := by omega
          have hsub : (S.size : Int) - (d : Int) = (m : Int) := by omega
          have HDM := Lib.hid (show S.extract 0 m = ofR l2 by have h := HDR.out; rw [hsz, Nat.add_sub_cancel] at h; exact h)
          have HSZ := Lib.hid hsz
          clear hsz HDR
          go_wp2_with fail
          refine HD.out.mono ?_
          rintro e w2 ⟨rfl, hb2⟩
          have HB2 := Lib.hid (bnext HB.out hb2)
          clear hb2
          cases hp : pS y with
          | true =>
            have HE2 := Lib.hid (show trimR l2 = trimR (trimL l) by rw [← HE.out, trimR_yes hp])
            have hp' : isS (y : Int) = true := hp
            clear hp
            go_wp2_with (go_at_call 24; refine (zzIs_any y hfx _).mono ?_; rintro e w' ⟨rfl, rfl⟩)
            go_roundw
            case rel => exact ⟨l2, by rw [HDM.out], by have := HSZ.out; have := HM.out; omega, Lib.hid (fun n hn => HS.out n (by simp [hn])), HE2, HB2.out⟩
            case measure =>
              have h5 := HSZ.out
              have h6 := HM.out
              show (S.extract 0 m).size < S.size
              rw [HDM.out]
              omega
          | false =>
            have HE2 := Lib.hid (show S = ofR (trimR (trimL l)) by rw [← HE.out, trimR_no hp, HS2.out])
            have hp' : isS (y : Int) = false := hp
            clear hp
            go_wp2_with (go_at_call 24; refine (zzIs_any y hfx _).mono ?_; rintro e w' ⟨rfl, rfl⟩)
            go_ret
            exact ⟨retS HE2.out, HB2.out⟩
    | cons x l' =>
      have hx := HV.out x (HS.out x (by simp))
      have hfx := HF.out x (HS.out x (by simp))
      have h1 := encB_pos hx
      have hsz : (ofR (x :: l')).size = (encB x).length + (ofR l').size := by rw [ofR_size, ofR_size, enc_cons, List.length_append]
      have hd := Tryd.utf8_DecodeRuneInString (ofR (x :: l')) wr (Utf8Tabs_below HT.out hb)
      rw [first_of hx] at hd
      have hdrop := ofR_drop x l'
      have hpos : (0 : Int) < ((ofR (x :: l')).size : Int) := by omega
      have HD := Lib.hid hd
      have HDR := Lib.hid hdrop
      have HB := Lib.hid hb
      clear hd hdrop hb
      generalize hSS : ofR (x :: l') = S at *
      have HSS := Lib.hid hSS
      clear hSS
      generalize (encB x).length = d at *
      have hdl : d ≤ S.size := by omega
      have hd4 : (d : Int) ≤ 4 := by omega
      have HSZ := Lib.hid hsz
      clear hsz
      go_wp2_with fail
      refine HD.out.mono ?_
      rintro e w2 ⟨rfl, hb2⟩
      have HB2 := Lib.hid (bnext HB.out hb2)
      clear hb2
      cases hp : pS x with
      | true =>
        have HE2 := Lib.hid (show trimL l' = trimL l by rw [← HE.out, trimL_yes hp])
        have hp' : isS (x : Int) = true := hp
        clear hp
        go_wp2_with (go_at_call 24; refine (zzIs_any x hfx _).mono ?_; rintro e w' ⟨rfl, rfl⟩)
        go_roundw
        case rel => exact ⟨l', by rw [HDR.out], by have := HSZ.out; omega, Lib.hid (fun n hn => HS.out n (by simp [hn])), HE2, HB2.out⟩
        case measure =>
          have h5 := HSZ.out
          show (S.extract d S.size).size < S.size
          rw [HDR.out]
          omega
      | false =>
        have HE3 := Lib.hid (show x :: l' = trimL l by rw [← HE.out, trimL_no hp])
        have hp' : isS (x : Int) = false := hp
        clear hp
        go_wp2_with (go_at_call 24; refine (zzIs_any x hfx _).mono ?_; rintro e w' ⟨rfl, rfl⟩)
        go_loopw [0] (fun v wr => ∃ l', v = .string (ofR l') ∧ (ofR l').size ≤ 2000 ∧ Hid (∀ n ∈ l', n ∈ l) ∧ Hid (trimR l' = trimR (trimL l)) ∧ Below w.heap.size w wr) (fun v _ => strLen v)
        case atStart => exact ⟨x :: l', by rw [HSS.out], by rw [HSS.out]; exact hz', HS, Lib.hid (by rw [HE3.out]), HB2.out⟩
        case round =>
          obtain ⟨l', rfl, hz', HS, HE, hb⟩ := hrel
          rcases List.eq_nil_or_concat l' with rfl | ⟨l2, y, rfl⟩
          · have HB := Lib.hid hb
            clear hb
            have HSS := Lib.hid (show ofR [] = ofR (trimR (trimL l)) by rw [← HE.out, trimR_nil])
            have hs0 : (ofR []).size = 0 := by rw [ofR_size]; rfl
            have hs0' : ¬ (0 : Int) < ((ofR []).size : Int) := by omega
            generalize ofR [] = S at *
            go_wp2_with fail
            go_ret
            exact ⟨retS HSS.out, HB.out⟩
          · rw [List.concat_eq_append] at HS HE hz' ⊢
            have hx := HV.out y (HS.out y (by simp))
            have hfx := HF.out y (HS.out y (by simp))
            have h1 := encB_pos hx
            have hsz : (ofR (l2 ++ [y])).size = (ofR l2).size + (encB y).length := by rw [ofR_size, ofR_size, enc_app, List.length_append]; simp [enc]
            have hd := Tryd.utf8_DecodeLastRuneInString (ofR (l2 ++ [y])) wr (by omega) (Utf8Tabs_below HT.out hb)
            rw [ofR_list, last_of hx] at hd
            have HDR := Lib.hid (ofR_take y l2)
            have HD := Lib.hid hd
            have HB := Lib.hid hb
            clear hd hb
            have HSS := Lib.hid (show ofR (l2 ++ [y]) = _ from rfl)
            generalize hSS : ofR (l2 ++ [y]) = S at *
            have HS2 := Lib.hid hSS
            clear hSS HSS
            generalize (encB y).length = d at *
            obtain ⟨m, hm⟩ : ∃ m, (ofR l2).size = m := ⟨_, rfl⟩
            rw [hm] at hsz
            have HM := Lib.hid hm
            clear hm
            have hpos : (0 : Int) < (S.size : Int) := by omega
            have hdl : d ≤ S.size := by omega
            have hml : m ≤ S.size := by omega
            have hd4 : (d : Int) ≤ 4 := by omega
            have hsub : (S.size : Int) - (d : Int) = (m : Int) := by omega
            have HDM := Lib.hid (show S.extract 0 m = ofR l2 by have h := HDR.out; rw [hsz, Nat.add_sub_cancel] at h; exact h)
            have HSZ := Lib.hid hsz
            clear hsz HDR
            go_wp2_with fail
            refine HD.out.mono ?_
            rintro e w2 ⟨rfl, hb2⟩
            have HB2 := Lib.hid (bnext HB.out hb2)
            clear hb2
            cases hp : pS y with
            | true =>
              have HE2 := Lib.hid (show trimR l2 = trimR (trimL l) by rw [← HE.out, trimR_yes hp])
              have hp' : isS (y : Int) = true := hp
              clear hp
              go_wp2_with (go_at_call 24; refine (zzIs_any y hfx _).mono ?_; rintro e w' ⟨rfl, rfl⟩)
              go_roundw
              case rel => exact ⟨l2, by rw [HDM.out], by have := HSZ.out; have := HM.out; omega, Lib.hid (fun n hn => HS.out n (by simp [hn])), HE2, HB2.out⟩
              case measure =>
                have h5 := HSZ.out
                have h6 := HM.out
                show (S.extract 0 m).size < S.size
                rw [HDM.out]
                omega
            | false =>
              have HE2 := Lib.hid (show S = ofR (trimR (trimL l)) by rw [← HE.out, trimR_no hp, HS2.out])
              have hp' : isS (y : Int) = false := hp
              clear hp
              go_wp2_with (go_at_call 24; refine (zzIs_any y hfx _).mono ?_; rintro e w' ⟨rfl, rfl⟩)
              go_ret
              exact ⟨retS HE2.out, HB2.out⟩
end Go.Proofs.YtenibebomafdmaaDoor
