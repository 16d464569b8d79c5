/- The specification's side: readable texts, line feeds counted, white space stripped and read. -/
import Derived.Test.YtlbgmcpjdfoalaaDoorLrA
namespace Go.Proofs.YtlbgmcpjdfoalaaDoor
open Go.RowKit Rune

theorem pointAt_fits {s : ByteArray} {i r n : Nat} (h : PointAt s i r n) : 1 ≤ n ∧ n ≤ 4 ∧ i + n ≤ s.size := by
  obtain ⟨hv, hn, hs⟩ := h
  have hp := encB_pos hv
  have := get_list (hs (n - 1) _ (List.getElem?_eq_getElem (by omega : n - 1 < (encB r).length)))
  omega
theorem pointAt_take {s : ByteArray} {i r n : Nat} {l : List Nat} (h : PointAt s i r n) (hl : s.data.toList.take i = enc l) : s.data.toList.take (i + n) = enc (l ++ [r]) := by
  have hf := pointAt_fits h
  obtain ⟨hv, hn, hs⟩ := h
  have hsz := size_list s
  rw [List.take_add, hl, enc_app, enc_cons]
  have he : encB r ++ enc [] = encB r := List.append_nil _
  rw [he]
  refine congrArg (enc l ++ ·) ?_
  apply List.ext_getElem?
  intro k
  rcases Nat.lt_or_ge k n with hk | hk
  · rw [List.getElem?_take_of_lt hk, List.getElem?_drop, hs k _ (List.getElem?_eq_getElem (by omega)), List.getElem?_eq_getElem (by omega)]
  · rw [List.getElem?_eq_none (by simp; omega), List.getElem?_eq_none (by omega)]
def ReadTo (s : ByteArray) (i : Nat) (l : List Nat) : Prop := (∀ n ∈ l, okR n) ∧ s.data.toList.take i = enc l
theorem ReadTo.step {s : ByteArray} {i r n : Nat} {l : List Nat} (h : ReadTo s i l) (hp : PointAt s i r n) : ReadTo s (i + n) (l ++ [r]) :=
  ⟨fun m hm => by
    rw [List.mem_append] at hm
    rcases hm with hm | hm
    · exact h.1 m hm
    · simp at hm; subst hm; exact hp.1, pointAt_take hp h.2⟩
theorem ReadTo.rem {s : ByteArray} {l : List Nat} (h : ReadTo s s.size l) : Rem s 0 l := by
  refine ⟨Nat.zero_le _, h.1, ?_⟩
  rw [List.drop_zero, ← h.2, List.take_of_length_le (by rw [size_list]; exact Nat.le_refl _)]

theorem getB {s : ByteArray} {k : Nat} (h : k < s.size) : s.data.toList[k]? = some (s[k]'h) := by
  simp [ByteArray.getElem_eq_getElem_data, h]
theorem byte_eq {b : UInt8} {n : Nat} (hn : n < 256) (h : (b.toNat : Int) = n) : b = UInt8.ofNat n := by
  apply UInt8.toNat.inj
  rw [ofN hn]
  omega
theorem byte_ne {b : UInt8} {n : Nat} (hn : n < 256) (h : (b.toNat : Int) ≠ n) : b ≠ UInt8.ofNat n := by
  intro e
  subst e
  rw [ofN hn] at h
  exact h rfl

def ReadP (s : ByteArray) (w : World) (e : Ending) (w' : World) : Prop := ∃ b, e = .returned (.bool b) ∧ (b = true → ∃ l, Rem s 0 l) ∧ w = w'
set_option maxRecDepth 100000 in
set_option maxHeartbeats 1000000 in
theorem readable_any (s : ByteArray) (hz : s.size ≤ 9223372036854775807) (w : World) : Calls Tryd.prog 6 #[.string s] w (ReadP s w) := by
  go_enter Tryd.func6, Tryd.ntmps6
  go_wp2_with fail
  go_loop [3, 4, 5] (fun i r n => ∃ (k : Nat) (l : List Nat), k ≤ s.size ∧ i = .int .i64 k ∧ Hid (ReadTo s k l)) (fun i _ _ => s.size - (intOf i).toNat)
  case atStart => exact ⟨0, [], Nat.zero_le _, rfl, Lib.hid ⟨(fun _ h => by simp at h), rfl⟩⟩
  case round =>
    obtain ⟨k, l, hk, rfl, HR⟩ := hrel
    by_cases hlt : k < s.size
    · have hlt' : (k : Int) < (s.size : Int) := by omega
      go_wp2_with fail
      refine (point_any s k hlt hz _).mono ?_
      rintro e w' ⟨r, n, rfl, hp, rfl⟩
      by_cases hn : n = 0
      · subst hn
        go_wp2_with fail
        go_ret
        exact ⟨false, rfl, (fun h => by cases h), rfl⟩
      · have hpt := hp hn
        have hf := pointAt_fits hpt
        have HN := Lib.hid (HR.out.step hpt)
        have hn' : ¬(n : Int) = 0 := by omega
        clear hp hpt
        obtain ⟨z, hzz⟩ : ∃ z : Int, (r : Int) = z := ⟨_, rfl⟩
        rw [hzz]
        clear hzz
        go_wp2_with fail
        · go_ret
          exact ⟨false, rfl, (fun h => by cases h), rfl⟩
        · go_ret
          exact ⟨false, rfl, (fun h => by cases h), rfl⟩
        · go_round
          case rel => exact ⟨k + n, _, by omega, by go_num, HN⟩
          case measure => simp [intOf]; omega
    · obtain rfl : k = s.size := by omega
      go_wp2_with fail
      go_ret
      exact ⟨true, rfl, fun _ => ⟨l, HR.out.rem⟩, rfl⟩

def ShortP (s : ByteArray) (w : World) (e : Ending) (w' : World) : Prop := ∃ b, e = .returned (.bool b) ∧ (b = true → s.size ≤ 2000 ∧ ∃ l, Rem s 0 l) ∧ w = w'
theorem short_any (s : ByteArray) (hz : s.size ≤ 9223372036854775807) (w : World) : Calls Tryd.prog 9 #[.string s] w (ShortP s w) := by
  by_cases h : s.size ≤ 2000
  · have h' : (s.size : Int) ≤ 2000 := by omega
    go_enter Tryd.func9, Tryd.ntmps9
    go_wp2_with fail
    refine (readable_any s hz _).mono ?_
    rintro e w' ⟨b, rfl, hb, rfl⟩
    have HB := Lib.hid hb
    clear hb
    go_wp2_with fail
    go_ret
    exact ⟨_, rfl, fun hh => ⟨h, HB.out (by simpa using hh)⟩, rfl⟩
  · have h' : (2000 : Int) < (s.size : Int) := by omega
    go_enter Tryd.func9, Tryd.ntmps9
    go_wp2_with fail
    go_ret
    exact ⟨_, rfl, (fun hh => by simp at hh), rfl⟩

def FeedP (s : ByteArray) (w : World) (e : Ending) (w' : World) : Prop := ∃ n : Nat, e = .returned (.int .i64 n) ∧ (n ≠ 0 → (10 : UInt8) ∈ s.data.toList) ∧ w = w'
set_option maxRecDepth 100000 in
theorem feeds_any (s : ByteArray) (hz : s.size ≤ 2000) (w : World) : Calls Tryd.prog 10 #[.string s] w (FeedP s w) := by
  go_enter Tryd.func10, Tryd.ntmps10
  go_wp2_with fail
  go_loop [3, 4] (fun c i => ∃ k n : Nat, k ≤ s.size ∧ n ≤ k ∧ i = .int .i64 k ∧ c = .int .i64 n ∧ Hid (n ≠ 0 → (10 : UInt8) ∈ s.data.toList)) (fun _ i => s.size - (intOf i).toNat)
  case atStart => exact ⟨0, 0, Nat.zero_le _, Nat.le_refl _, rfl, rfl, Lib.hid (fun h => absurd rfl h)⟩
  case round =>
    obtain ⟨k, n, hk, hnk, rfl, rfl, HN⟩ := hrel
    by_cases hlt : k < s.size
    · have hlt' : (k : Int) < (s.size : Int) := by omega
      by_cases hb : ((s[k]'hlt).toNat : Int) = 10
      · have HM := Lib.hid (show (10 : UInt8) ∈ s.data.toList from List.mem_of_getElem? (by rw [getB hlt, byte_eq (n := 10) (by omega) hb]; rfl))
        go_wp2_with fail
        go_round
        case rel => exact ⟨k + 1, n + 1, by omega, by omega, by go_num, by go_num, Lib.hid (fun _ => HM.out)⟩
        case measure => simp [intOf]; omega
      · go_wp2_with fail
        go_round
        case rel => exact ⟨k + 1, n, by omega, by omega, by go_num, rfl, HN⟩
        case measure => simp [intOf]; omega
    · obtain rfl : k = s.size := by omega
      go_wp2_with fail
      go_ret
      exact ⟨n, rfl, HN.out, rfl⟩

/-! ### blanks -/
theorem blank_any (c : Int) (w : World) : Calls Tryd.prog 29 #[.int .u8 c] w fun e w' => e = .returned (.bool (decide (c = 32) || decide (c = 9) || decide (c = 13))) ∧ w = w' := by
  by_cases h1 : c = 32
  · subst h1
    go_enter Tryd.func29, Tryd.ntmps29
    go_wp2
    go_ret
    exact ⟨rfl, rfl⟩
  · by_cases h2 : c = 9
    · subst h2
      go_enter Tryd.func29, Tryd.ntmps29
      go_wp2
      go_ret
      exact ⟨rfl, rfl⟩
    · go_enter Tryd.func29, Tryd.ntmps29
      go_wp2
      go_ret
      exact ⟨by simp [h1, h2]; rfl, rfl⟩
theorem blk_int (b : UInt8) : (decide ((b.toNat : Int) = 32) || decide ((b.toNat : Int) = 9) || decide ((b.toNat : Int) = 13)) = blkB b := by
  have one : ∀ n : Nat, n < 256 → decide ((b.toNat : Int) = (n : Int)) = (b == UInt8.ofNat n) := fun n hn => by
    by_cases h : (b.toNat : Int) = n
    · rw [byte_eq hn h, ofN hn]; simp
    · rw [decide_eq_false h]
      have := byte_ne hn h
      simp [this]
  unfold blkB
  have a : decide ((b.toNat : Int) = 32) = (b == 32) := one 32 (by omega)
  have b' : decide ((b.toNat : Int) = 9) = (b == 9) := one 9 (by omega)
  have c : decide ((b.toNat : Int) = 13) = (b == 13) := one 13 (by omega)
  rw [a, b', c]

theorem ext_list (u : ByteArray) (a b : Nat) : (u.extract a b).data.toList = (u.data.toList.drop a).take (b - a) := by
  rw [ByteArray.data_extract, Array.toList_extract, List.extract_eq_take_drop]
def StripP (u : ByteArray) (w : World) (e : Ending) (w' : World) : Prop := ∃ T : ByteArray, e = .returned (.string T) ∧ T.data.toList = trimB u.data.toList ∧ w = w'
theorem trim_step {u : ByteArray} {k : Nat} (hk : k + 1 ≤ u.size) (hb : blkB (u[k]'(by omega)) = true) (h : trimB (u.data.toList.take (k + 1)) = trimB u.data.toList) : trimB (u.data.toList.take k) = trimB u.data.toList := by
  rw [← h, List.take_add_one, getB (by omega : k < u.size)]
  exact (trimB_blk _ _ hb).symm
theorem trim_stop {u : ByteArray} {k : Nat} (hk : k + 1 ≤ u.size) (hb : blkB (u[k]'(by omega)) = false) (h : trimB (u.data.toList.take (k + 1)) = trimB u.data.toList) : u.data.toList.take (k + 1) = trimB u.data.toList := by
  rw [← h, List.take_add_one, getB (by omega : k < u.size)]
  exact (trimB_non _ _ hb).symm

set_option maxRecDepth 100000 in
set_option maxHeartbeats 1000000 in
theorem strip_any (u : ByteArray) (hz : u.size ≤ 2000) (w : World) : Calls Tryd.prog 22 #[.string u, .int .i64 0] w (StripP u w) := by
  go_enter Tryd.func22, Tryd.ntmps22
  go_wp2_with fail
  go_loop [5] (fun i => ∃ k : Nat, k ≤ u.size ∧ i = .int .i64 k ∧ Hid (trimB (u.data.toList.take k) = trimB u.data.toList)) (fun i => (intOf i).toNat)
  case atStart => exact ⟨u.size, Nat.le_refl _, rfl, Lib.hid (by rw [List.take_of_length_le (by rw [size_list]; exact Nat.le_refl _)])⟩
  case round =>
    obtain ⟨k, hk, rfl, HK⟩ := hrel
    rcases k with _ | k
    · go_wp2_with fail
      refine wp_loop_rounds 1 ?_
      rw [rounds_succ]
      go_wp2_with fail
      go_ret
      exact ⟨_, rfl, by rw [← HK.out]; rfl, rfl⟩
    · have hkl : k < u.size := by omega
      have h0 : (0 : Int) < ((k + 1 : Nat) : Int) := by omega
      have hk1 : ((k + 1 : Nat) : Int) - 1 = (k : Int) := by omega
      go_wp2_with fail
      refine (blank_any _ _).mono ?_
      rintro e w' ⟨rfl, rfl⟩
      rw [blk_int]
      cases hb : blkB u[k] with
      | true =>
        have HK2 := Lib.hid (trim_step hk hb HK.out)
        clear hb
        go_wp2_with fail
        go_round
        case rel => exact ⟨k, by omega, by go_num, HK2⟩
        case measure => simp [intOf]
      | false =>
        have HK2 := Lib.hid (trim_stop hk hb HK.out)
        clear hb
        go_wp2_with fail
        refine wp_loop_rounds 1 ?_
        rw [rounds_succ]
        go_wp2_with fail
        go_ret
        exact ⟨_, rfl, by rw [← HK2.out, ext_list]; rfl, rfl⟩

/-- White space read of the beginning of a string. -/
def SpaceP (u : ByteArray) (w : World) (e : Ending) (w' : World) : Prop := ∃ q : Nat, e = .returned (.tuple #[.int .i64 (ws (seg u 0 q)).1, .int .i64 (ws (seg u 0 q)).2, .int .i64 q]) ∧ WsEnds u 0 q ∧ w = w'

theorem ws_byte {u : ByteArray} {k : Nat} (hk : k < u.size) : ws (seg u 0 (k + 1)) = wsStep (ws (seg u 0 k)) (u[k]'hk) := by
  rw [seg_snoc (Nat.zero_le _) (getB hk), ws_snoc]
theorem wsB_int (b : UInt8) : wsB b = (decide ((b.toNat : Int) = 10) || (decide ((b.toNat : Int) = 32) || decide ((b.toNat : Int) = 9) || decide ((b.toNat : Int) = 13))) := by
  have a : decide ((b.toNat : Int) = 10) = (b == 10) := by
    by_cases h : (b.toNat : Int) = 10
    · rw [byte_eq (n := 10) (by omega) h]; rfl
    · rw [decide_eq_false h]
      have := byte_ne (n := 10) (by omega) h
      simpa using this
  rw [blk_int, a]
  rfl

set_option maxRecDepth 100000 in
set_option maxHeartbeats 1000000 in
theorem space_any (u : ByteArray) (hz : u.size ≤ 2000) (w : World) : Calls Tryd.prog 21 #[.string u] w (SpaceP u w) := by
  go_enter Tryd.func21, Tryd.ntmps21
  go_wp2_with fail
  go_loop [2, 3, 4] (fun a b i => ∃ k : Nat, k ≤ u.size ∧ i = .int .i64 k ∧ a = .int .i64 (ws (seg u 0 k)).1 ∧ b = .int .i64 (ws (seg u 0 k)).2 ∧ Hid (∀ j c, j < k → u.data.toList[j]? = some c → wsB c = true)) (fun _ _ i => u.size - (intOf i).toNat)
  case atStart => exact ⟨0, Nat.zero_le _, rfl, rfl, rfl, Lib.hid (fun j c h => by omega)⟩
  case round =>
    obtain ⟨k, hk, rfl, rfl, rfl, HW⟩ := hrel
    have hle := ws_le (seg u 0 k)
    have hsl := seg_len u 0 k
    by_cases hlt : k < u.size
    · have hlt' : (k : Int) < (u.size : Int) := by omega
      have hwb := wsB_int (u[k]'hlt)
      have hws := ws_byte hlt
      have HWS := Lib.hid hws
      obtain ⟨a, ha⟩ : ∃ a, (ws (seg u 0 k)).1 = a := ⟨_, rfl⟩
      obtain ⟨b, hb⟩ : ∃ b, (ws (seg u 0 k)).2 = b := ⟨_, rfl⟩
      have HA := Lib.hid ha
      have HB := Lib.hid hb
      rw [ha] at hle ⊢
      rw [hb] at hle ⊢
      have next : wsB (u[k]'hlt) = true → ∀ j c, j < k + 1 → u.data.toList[j]? = some c → wsB c = true := fun h j c hj hc => by
        rcases Nat.lt_or_ge j k with h' | h'
        · exact HW.out j c h' hc
        · obtain rfl : j = k := by omega
          rw [getB hlt] at hc
          injection hc with hc
          rw [← hc]; exact h
      have NX := Lib.hid next
      clear next hws ha hb
      by_cases h10 : ((u[k]'hlt).toNat : Int) = 10
      · have HT := Lib.hid (NX.out (by rw [hwb, decide_eq_true h10]; rfl))
        have HV := Lib.hid (show ws (seg u 0 (k + 1)) = (a + 1, 0) by rw [HWS.out, byte_eq (n := 10) (by omega) h10, ← HA.out]; rfl)
        clear hwb
        go_wp2_with fail
        go_round
        case rel => exact ⟨k + 1, by omega, by go_num, by rw [HV.out]; go_num, by rw [HV.out]; rfl, HT⟩
        case measure => simp [intOf]; omega
      · by_cases h32 : ((u[k]'hlt).toNat : Int) = 32
        · have HT := Lib.hid (NX.out (by rw [hwb, decide_eq_true h32]; simp))
          have HV := Lib.hid (show ws (seg u 0 (k + 1)) = (a, b + 1) by rw [HWS.out, byte_eq (n := 32) (by omega) h32, ← HA.out, ← HB.out]; rfl)
          clear hwb
          go_wp2_with fail
          go_round
          case rel => exact ⟨k + 1, by omega, by go_num, by rw [HV.out], by rw [HV.out]; go_num, HT⟩
          case measure => simp [intOf]; omega
        · by_cases h9 : ((u[k]'hlt).toNat : Int) = 9
          · have HT := Lib.hid (NX.out (by rw [hwb, decide_eq_true h9]; simp))
            have HV := Lib.hid (show ws (seg u 0 (k + 1)) = (a, b + 8) by rw [HWS.out, byte_eq (n := 9) (by omega) h9, ← HA.out, ← HB.out]; rfl)
            clear hwb
            go_wp2_with fail
            go_round
            case rel => exact ⟨k + 1, by omega, by go_num, by rw [HV.out], by rw [HV.out]; go_num, HT⟩
            case measure => simp [intOf]; omega
          · by_cases h13 : ((u[k]'hlt).toNat : Int) = 13
            · have HT := Lib.hid (NX.out (by rw [hwb, decide_eq_true h13]; simp))
              have HV := Lib.hid (show ws (seg u 0 (k + 1)) = (a, b) by rw [HWS.out, byte_eq (n := 13) (by omega) h13, ← HA.out, ← HB.out]; rfl)
              clear hwb
              go_wp2_with fail
              go_round
              case rel => exact ⟨k + 1, by omega, by go_num, by rw [HV.out], by rw [HV.out], HT⟩
              case measure => simp [intOf]; omega
            · have HF := Lib.hid (show wsB (u[k]'hlt) = false by rw [hwb, decide_eq_false h10, decide_eq_false h32, decide_eq_false h9, decide_eq_false h13]; rfl)
              clear hwb
              go_wp2_with fail
              go_ret3
              exact ⟨k, by rw [HA.out, HB.out]; rfl, ⟨Nat.zero_le _, hk, fun j c _ hj hc => HW.out j c hj hc, fun c hc => by rw [getB hlt] at hc; injection hc with hc; rw [← hc]; exact HF.out⟩, rfl⟩
    · obtain rfl : k = u.size := by omega
      go_wp2_with fail
      go_ret3
      exact ⟨u.size, rfl, ⟨Nat.zero_le _, Nat.le_refl _, fun j c _ hj hc => HW.out j c hj hc, fun c hc => by
        have := (List.getElem?_eq_some_iff.1 hc).1
        rw [size_list] at this
        omega⟩, rfl⟩

theorem sub_ws {s : ByteArray} {p q : Nat} (hp : p ≤ s.size) (h : WsEnds (s.extract p s.size) 0 q) : WsEnds s p (p + q) ∧ seg (s.extract p s.size) 0 q = seg s p (p + q) := by
  have hl : (s.extract p s.size).data.toList = s.data.toList.drop p := by
    rw [ext_list]
    exact List.take_of_length_le (by rw [List.length_drop, size_list]; exact Nat.le_refl _)
  have hsz : (s.extract p s.size).size = s.size - p := by
    rw [← size_list, hl, List.length_drop, size_list]
  have h2 := h.2.1
  rw [hsz] at h2
  refine ⟨⟨by omega, by omega, fun j b h1 h3 hb => ?_, fun b hb => ?_⟩, ?_⟩
  · refine h.2.2.1 (j - p) b (Nat.zero_le _) (by omega) ?_
    rw [hl, List.getElem?_drop]
    have : p + (j - p) = j := by omega
    rw [this, hb]
  · refine h.2.2.2 b ?_
    rw [hl, List.getElem?_drop, hb]
  · unfold seg
    rw [hl, List.drop_zero]
    congr 1
    omega

def LineP (s : ByteArray) (w : World) (e : Ending) (w' : World) : Prop := ∃ (p q : Nat) (T : ByteArray), LineEnds s p ∧ WsEnds s p q ∧ T.data.toList = trimB (s.data.toList.take p) ∧
  e = .returned (.tuple #[.string T, .int .i64 (((ws (seg s p q)).1 : Int) - 1), .int .i64 (ws (seg s p q)).2, .int .i64 q]) ∧ w = w'

set_option maxRecDepth 100000 in
set_option maxHeartbeats 1000000 in
theorem specLine_any (s : ByteArray) (hz : s.size ≤ 2000) (hten : (10 : UInt8) ∈ s.data.toList) (w : World) : Calls Tryd.prog 11 #[.string s] w (LineP s w) := by
  go_enter Tryd.func11, Tryd.ntmps11
  go_wp2_with fail
  go_loop [6] (fun i => ∃ k : Nat, k ≤ s.size ∧ i = .int .i64 k ∧ Hid ((10 : UInt8) ∉ s.data.toList.take k)) (fun i => s.size - (intOf i).toNat)
  case atStart => exact ⟨0, Nat.zero_le _, rfl, Lib.hid (by simp)⟩
  case round =>
    obtain ⟨k, hk, rfl, HN⟩ := hrel
    have go : ∀ hl : (k < s.size → s.data.toList[k]? = some 10), LineEnds s k := fun hl => ⟨hk, HN.out, hl⟩
    by_cases hlt : k < s.size ∧ ¬ ((s.data.toList[k]?).map (fun b => (b.toNat : Int))) = some 10
    · have hk2 := hlt.1
      have hlt' : (k : Int) < (s.size : Int) := by omega
      have h10 : ¬ ((s[k]'hk2).toNat : Int) = 10 := by
        have := hlt.2
        rw [getB hk2] at this
        simpa using this
      have HN2 := Lib.hid (show (10 : UInt8) ∉ s.data.toList.take (k + 1) by
        rw [List.take_add_one, getB hk2]
        intro hm
        rcases List.mem_append.1 hm with hm | hm
        · exact HN.out hm
        · simp at hm
          exact byte_ne (n := 10) (by omega) h10 hm.symm)
      clear hlt go
      go_wp2_with fail
      go_round
      case rel => exact ⟨k + 1, by omega, by go_num, HN2⟩
      case measure => simp [intOf]; omega
    · have hE : LineEnds s k := go (fun h => by
        have : ((s.data.toList[k]?).map (fun b => (b.toNat : Int))) = some 10 := by
          apply Classical.byContradiction
          intro hn
          exact hlt ⟨h, hn⟩
        rw [getB h] at this ⊢
        simp at this
        rw [byte_eq (n := 10) (by omega) this]
        rfl)
      have HE := Lib.hid hE
      have h10 : ∀ h : k < s.size, ((s[k]'h).toNat : Int) = 10 := fun h => by
        have := hE.2.2 h
        rw [getB h] at this
        injection this with this
        rw [this]; rfl
      clear hE go hlt
      have fin : ∀ (q : Nat) (T : ByteArray), WsEnds (s.extract k s.size) 0 q → T.data.toList = trimB (s.extract 0 k).data.toList →
          LineP s w (.returned (.tuple #[.string T, .int .i64 (((ws (seg (s.extract k s.size) 0 q)).1 : Int) - 1), .int .i64 (ws (seg (s.extract k s.size) 0 q)).2, .int .i64 ((k : Int) + (q : Int))])) w := fun q T hW hT => by
        obtain ⟨h1, h2⟩ := sub_ws hk hW
        rw [h2]
        exact ⟨k, k + q, T, HE.out, h1, by rw [hT, ext_list]; rfl, by simp, rfl⟩
      have hz1 : (s.extract k s.size).size ≤ 2000 := by rw [← size_list, ext_list]; simp; omega
      have hz2 : (s.extract 0 k).size ≤ 2000 := by rw [← size_list, ext_list]; simp; omega
      have FIN := Lib.hid fin
      clear fin
      by_cases hks : k < s.size
      · have hks' : (k : Int) < (s.size : Int) := by omega
        have h10' := h10 hks
        clear h10
        go_wp2_with fail
        refine (space_any _ hz1 _).mono ?_
        rintro e w' ⟨q, rfl, hW, rfl⟩
        have HW := Lib.hid hW
        have hql := ws_le (seg (s.extract k s.size) 0 q)
        have hsl := seg_len (s.extract k s.size) 0 q
        have hqz := hW.2.1
        clear hW
        go_wp2_with fail
        refine (strip_any _ hz2 _).mono ?_
        rintro e w' ⟨T, rfl, hT, rfl⟩
        have HT := Lib.hid hT
        clear hT
        go_wp2_with fail
        refine bodyPost_ret (v := .tuple #[.string T, .int .i64 (((ws (seg (s.extract k s.size) 0 q)).1 : Int) - 1), .int .i64 (ws (seg (s.extract k s.size) 0 q)).2, .int .i64 ((k : Int) + (q : Int))]) (by simp [results, Tryd.results11]) rfl ?_
        exact FIN.out q T HW.out HT.out
      · exfalso
        obtain rfl : k = s.size := by omega
        have := HN.out
        rw [List.take_of_length_le (by rw [size_list]; exact Nat.le_refl _)] at this
        exact this hten
end Go.Proofs.YtlbgmcpjdfoalaaDoor
