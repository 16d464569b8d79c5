/- The law FnLineParts: texts made of lines; what stands ahead of a range, in it and behind it. -/
import Derived.Test.YtlbgmcpjdfoalaaDoorLpC
namespace Go.Proofs.YtlbgmcpjdfoalaaDoor
open Go.RowKit Go.Sort Rune

def ended (L : List (List UInt8)) : List UInt8 := L.flatMap fun a => a ++ [10]
theorem rows_ended : ∀ (L : List (List UInt8)) (z : List UInt8), (∀ a ∈ L, (10 : UInt8) ∉ a) → (10 : UInt8) ∉ z → rowsOf [] (ended L ++ z) = L.map (fun a => a ++ [10]) ++ [z ++ [10]]
  | [], z, _, hz => by
    have := rowsOf_no10 z [] [] hz
    simp only [List.append_nil, List.nil_append] at this
    simp [ended, this, rowsOf]
  | a :: L, z, h, hz => by
    have e : ended (a :: L) ++ z = a ++ ([10] ++ (ended L ++ z)) := by simp [ended]
    rw [e, rowsOf_no10 _ _ _ (h a (List.mem_cons_self ..)), List.nil_append, rowsOf_10, rows_ended L z (fun b hb => h b (List.mem_cons_of_mem _ hb)) hz]
    rfl
def byts (ls : List ByteArray) : List (List UInt8) := ls.map fun s => s.data.toList
def tx (ls : List ByteArray) : Nat → List UInt8
  | 0 => []
  | k + 1 => ended ((byts ls).take k) ++ (byts ls).getD k []
theorem tx_zero (ls : List ByteArray) (h : 0 < ls.length) : tx ls 1 = (ls[0]'h).data.toList := by
  simp [tx, ended, byts, List.getD, List.getElem?_eq_getElem h]
theorem tx_step (ls : List ByteArray) (k : Nat) (h : k + 1 < ls.length) : tx ls (k + 2) = tx ls (k + 1) ++ [10] ++ (ls[k + 1]'h).data.toList := by
  have hk : k < ls.length := by omega
  simp only [tx]
  have e1 : (byts ls).take (k + 1) = (byts ls).take k ++ [(byts ls).getD k []] := by
    rw [List.take_add_one]
    simp [byts, List.getD, List.getElem?_eq_getElem hk]
  rw [e1]
  simp [ended, byts, List.getD, List.getElem?_eq_getElem h]
theorem tx_rows (ls : List ByteArray) (h0 : 0 < ls.length) (h : ∀ j (hj : j < ls.length), (10 : UInt8) ∉ (ls[j]'hj).data.toList) : rowsOf [] (tx ls ls.length) = (byts ls).map fun a => a ++ [10] := by
  obtain ⟨m, hm⟩ : ∃ m, ls.length = m + 1 := ⟨ls.length - 1, by omega⟩
  have hmem : ∀ a ∈ byts ls, (10 : UInt8) ∉ a := fun a ha => by
    obtain ⟨s, hs, rfl⟩ := List.mem_map.1 ha
    obtain ⟨j, hj, rfl⟩ := List.mem_iff_getElem.1 hs
    exact h j hj
  have hbl : (byts ls).length = m + 1 := by simp [byts, hm]
  have hg : (byts ls).getD m [] = (byts ls)[m]'(by omega) := by simp [List.getD, List.getElem?_eq_getElem (by omega : m < (byts ls).length)]
  rw [hm]
  simp only [tx]
  rw [hg, rows_ended _ _ (fun a ha => hmem a (List.mem_of_mem_take ha)) (hmem _ (List.getElem_mem _))]
  have e : (byts ls) = (byts ls).take m ++ [(byts ls)[m]'(by omega)] := by
    have := List.take_length (l := byts ls)
    rw [hbl, List.take_add_one, List.getElem?_eq_getElem (by omega)] at this
    exact this.symm
  have e2 := congrArg (List.map fun a : List UInt8 => a ++ [10]) e
  rw [List.map_append] at e2
  exact e2.symm
theorem row_len (ls : List ByteArray) : ((byts ls).map fun a => a ++ [(10 : UInt8)]).length = ls.length := by simp [byts]
theorem row_at (ls : List ByteArray) {k : Nat} (h : k < ls.length) : ((byts ls).map fun a => a ++ [(10 : UInt8)])[k]'(by rw [row_len]; exact h) = (ls[k]'h).data.toList ++ [10] := by simp [byts]

def Utf (l : List UInt8) : Prop := ∃ r : List Nat, (∀ n ∈ r, okR n) ∧ l = enc r
theorem Utf.app {a b : List UInt8} (h : Utf a) (k : Utf b) : Utf (a ++ b) := by
  obtain ⟨r, hr, rfl⟩ := h
  obtain ⟨q, hq, rfl⟩ := k
  refine ⟨r ++ q, fun n hn => ?_, (enc_app r q).symm⟩
  rcases List.mem_append.1 hn with hn | hn
  · exact hr n hn
  · exact hq n hn
theorem Utf.ten : Utf [10] := ⟨[10], fun n hn => by simp at hn; subst hn; unfold okR; omega, by
  have e : enc [10] = encB 10 := by simp [enc]
  rw [e, enc1 (by omega)]
  rfl⟩
theorem Utf.of_rem {s : ByteArray} {l : List Nat} (h : Rem s 0 l) : Utf s.data.toList := ⟨l, h.2.1, by simpa using h.2.2⟩
theorem Utf.rem {s : ByteArray} (h : Utf s.data.toList) : ∃ l, Rem s 0 l := by
  obtain ⟨r, hr, he⟩ := h
  exact ⟨r, Nat.zero_le _, hr, by simpa using he⟩

def FeedP9 (s : ByteArray) (w : World) (e : Ending) (w' : World) : Prop := ∃ b, e = .returned (.bool b) ∧ (b = false → (10 : UInt8) ∉ s.data.toList) ∧ w = w'
set_option maxRecDepth 100000 in
set_option maxHeartbeats 1000000 in
theorem feed9_any (s : ByteArray) (hz : s.size ≤ 100) (w : World) : Calls Tryd.prog 7 #[.string s] w (FeedP9 s w) := by
  go_enter Tryd.func7, Tryd.ntmps7
  go_wp2_with fail
  go_loop [3] (fun i => ∃ k : Nat, k ≤ s.size ∧ i = .int .i64 k ∧ Hid ((10 : UInt8) ∉ s.data.toList.take k)) (fun i => s.size - (intOf i).toNat)
  case atStart => exact ⟨0, Nat.zero_le _, rfl, Lib.hid (by simp)⟩
  case round =>
    obtain ⟨k, hk, rfl, HN⟩ := hrel
    by_cases hlt : k < s.size
    · have hlt' : (k : Int) < (s.size : Int) := by omega
      by_cases h10 : ((s[k]'hlt).toNat : Int) = 10
      · go_wp2_with fail
        go_ret
        exact ⟨true, rfl, (fun h => by cases h), rfl⟩
      · have HN2 := Lib.hid (show (10 : UInt8) ∉ s.data.toList.take (k + 1) by
          rw [List.take_add_one, getB hlt]
          intro hm
          rcases List.mem_append.1 hm with hm | hm
          · exact HN.out hm
          · simp at hm
            exact byte_ne (n := 10) (by omega) h10 hm.symm)
        by_cases h13 : ((s[k]'hlt).toNat : Int) = 13
        · go_wp2_with fail
          go_ret
          exact ⟨true, rfl, (fun h => by cases h), rfl⟩
        · go_wp2_with fail
          go_round
          case rel => exact ⟨k + 1, by omega, by go_num, HN2⟩
          case measure => simp [intOf]; omega
    · obtain rfl : k = s.size := by omega
      go_wp2_with fail
      go_ret
      exact ⟨false, rfl, fun _ => by
        have := HN.out
        rwa [List.take_of_length_le (by rw [size_list]; exact Nat.le_refl _)] at this, rfl⟩

def AnyBool (w : World) (e : Ending) (w' : World) : Prop := ∃ b, e = .returned (.bool b) ∧ w = w'
set_option maxHeartbeats 400000 in
theorem fits5_any (cv : Value) (ss : List ByteArray) (w : World) (B : Nat) (hr : RowV w B cv (strs ss)) (hl : ss.length ≤ 9223372036854775807) :
    Calls Tryd.prog 5 #[cv] w (AnyBool w) := by
  obtain ⟨A, c, rfl⟩ := hr.form
  have H := Lib.hid hr
  clear hr
  go_enter Tryd.func5, Tryd.ntmps5
  go_wp2
  · go_ret; exact ⟨_, rfl, rfl⟩
  · go_loop [10] (fun i => ∃ k : Nat, k ≤ ss.length ∧ i = .int .i64 k) (fun i => ss.length - (intOf i).toNat)
    case atStart => exact ⟨0, Nat.zero_le _, rfl⟩
    case round =>
      obtain ⟨k, hk, rfl⟩ := hrel
      by_cases hlt : k < ss.length
      · obtain ⟨b, off, rfl, hb, hcell⟩ := H.out.at_ hlt
        go_wp2
        · go_ret; exact ⟨_, rfl, rfl⟩
        · go_round
          case rel => exact ⟨k + 1, by omega, by go_num⟩
          case measure => simp [intOf]; omega
      · go_wp2
        go_ret; exact ⟨_, rfl, rfl⟩

def PartsQ (s : ByteArray) (a : Nat) (w : World) (e : Ending) (w' : World) : Prop :=
  ∃ S2 S3, e = .returned (.tuple #[.string (s.extract 0 (a - 1)), .string S2, .string S3]) ∧ s.extract 0 (a - 1) ++ S2 ++ S3 = s ∧ S2.size ≤ 101 ∧ S3.size ≤ 101 ∧ Below w.heap.size w w'
theorem cut_all {l : List UInt8} {x y z : Nat} (h1 : x ≤ y) (h2 : y ≤ z) : cut l 0 x ++ cut l x y ++ cut l y z = l.take z := by
  unfold cut
  rw [List.drop_zero, Nat.sub_zero]
  have e1 : l.take y = l.take x ++ (l.drop x).take (y - x) := by
    have := List.take_add (l := l) (i := x) (j := y - x)
    rwa [show x + (y - x) = y by omega] at this
  have e2 : l.take z = l.take y ++ (l.drop y).take (z - y) := by
    have := List.take_add (l := l) (i := y) (j := z - y)
    rwa [show y + (z - y) = z by omega] at this
  rw [e2, e1]
theorem ba_ext {a b : ByteArray} (h : a.data.toList = b.data.toList) : a = b := by
  apply ByteArray.ext
  apply Array.ext'
  exact h
theorem ba_list (l : List UInt8) : (ba l).data.toList = l := by simp [ba]
theorem ba_app (a b : ByteArray) : (a ++ b).data.toList = a.data.toList ++ b.data.toList := by rw [ByteArray.data_append]; simp
theorem parts_law (X : ByteArray) (ls : List ByteArray) (L a b : Nat) (w : World) (hX : ∃ l, Rem X 0 l) (hz : X.size ≤ 4000) (hrows : X.data.toList = tx ls ls.length) (hno : ∀ j (hj : j < ls.length), (10 : UInt8) ∉ (ls[j]'hj).data.toList) (hL : L < ls.length) (hLs : ls.length ≤ 20)
    (hs : (ls[L]'hL).size ≤ 100) (h1 : 1 ≤ a) (h2 : a ≤ b) (h3 : b ≤ (ls[L]'hL).size) :
    Calls Tryd.prog 8 #[.string X, .agg #[.int .i64 ((L : Int) + 1), .int .i64 a], .agg #[.int .i64 ((L : Int) + 1), .int .i64 b]] w (PartsQ (ls[L]'hL) a w) := by
  obtain ⟨l0, hR⟩ := hX
  have hrl := row_len ls
  have hra := row_at ls hL
  have hsz := size_list (ls[L]'hL)
  have hlen : (((byts ls).map fun x => x ++ [(10 : UInt8)])[L]'(by rw [hrl]; exact hL)).length = ls[L].size + 1 := by rw [hra, List.length_append, hsz]; rfl
  have := parts_any X l0 L a b ((byts ls).map fun x => x ++ [10]) w hR hz (by rw [hrows]; exact tx_rows ls (by omega) hno) (by rw [hrl]; exact hL) (by rw [hrl]; omega) h1 h2 (by rw [hlen]; omega) (by rw [hlen]; omega)
  refine Calls.mono (show Calls Tryd.prog 8 #[.string X, .agg #[.int .i64 ((L : Int) + 1), .int .i64 a], .agg #[.int .i64 ((L : Int) + 1), .int .i64 b]] w _ from this) ?_
  rintro e w' ⟨rfl, hb⟩
  simp only [hra]
  have hll : (ls[L].data.toList ++ [(10 : UInt8)]).length - 1 = ls[L].size := by rw [List.length_append, hsz]; rfl
  have e0 : ba (cut (ls[L].data.toList ++ [10]) 0 (a - 1)) = ls[L].extract 0 (a - 1) := by
    apply ba_ext
    rw [ba_list, ext_list]
    unfold cut
    rw [List.drop_zero, List.drop_zero, List.take_append_of_le_length (by rw [hsz]; omega)]
  refine ⟨_, _, by rw [← e0], ?_, ?_, ?_, hb⟩
  · rw [← e0]
    apply ba_ext
    rw [ba_app, ba_app, ba_list, ba_list, ba_list, cut_all (by omega) (by rw [hll]; omega), hll, ← hsz, List.take_left]
  · have h5 : ∀ l : List UInt8, (ba l).size = l.length := fun l => by simp [ba, ByteArray.size]
    rw [h5]
    unfold cut
    rw [List.length_take]
    omega
  · have h5 : ∀ l : List UInt8, (ba l).size = l.length := fun l => by simp [ba, ByteArray.size]
    rw [h5]
    unfold cut
    rw [List.length_take, List.length_drop, List.length_append, hsz]
    simp
    omega

set_option maxRecDepth 100000 in
set_option maxHeartbeats 8000000 in
theorem law2_any (v : Value) (ls : List ByteArray) (line a b : Int) (w : World) (hr : RowV w w.heap.size v (strs ls)) (hl : ls.length ≤ 9223372036854775807) (_hls : ∀ s ∈ ls, s.size ≤ 9223372036854775807) :
    Calls Tryd.prog 3 #[v, .int .i64 line, .int .i64 a, .int .i64 b] w fun e w' => e = .returned (.bool true) ∧ Below w.heap.size w w' := by
  obtain ⟨A, c, rfl⟩ := hr.form
  have HR := Lib.hid hr
  clear hr
  by_cases hin : 0 ≤ line ∧ line < ls.length ∧ ls.length ≤ 20
  · obtain ⟨hi0, hi1, hi2⟩ := hin
    obtain ⟨L, rfl⟩ : ∃ L : Nat, line = L := ⟨line.toNat, by omega⟩
    have hi3 : ¬ (20 : Int) < (ls.length : Int) := by omega
    go_enter Tryd.func3, Tryd.ntmps3
    go_wp2_with (go_at_call 5; refine (fits5_any _ ls _ _ HR.out hl).mono ?_; rintro e w' ⟨bb, rfl, rfl⟩; refine Hid.out ?_)
    refine Lib.hid ?_
    cases bb with
    | false =>
      go_wp2_with fail
      go_ret
      exact ⟨rfl, Below.refl _ _⟩
    | true =>
      go_wp2_with fail
      go_loop [9, 10] (fun t i => ∃ (k : Nat) (T : ByteArray), k ≤ ls.length ∧ i = .int .i64 k ∧ t = .string T ∧ T.size ≤ 101 * k ∧ Hid (T.data.toList = tx ls k) ∧ Hid (Utf T.data.toList) ∧
        Hid (∀ j (hj : j < ls.length), j < k → (10 : UInt8) ∉ (ls[j]'hj).data.toList ∧ (ls[j]'hj).size ≤ 100)) (fun _ i => ls.length - (intOf i).toNat)
      case atStart => exact ⟨0, { data := #[] }, Nat.zero_le _, rfl, rfl, Nat.zero_le _, Lib.hid rfl, Lib.hid ⟨[], (fun _ h => by simp at h), rfl⟩, Lib.hid (fun j _ h => by omega)⟩
      case round =>
        obtain ⟨k, T, hk, rfl, rfl, hTz, HT, HU, HA⟩ := hrel
        by_cases hlt : k < ls.length
        · have hlt' : (k : Int) < (ls.length : Int) := by omega
          obtain ⟨bl, off, rfl, hbl, hcell⟩ := HR.out.at_ hlt
          obtain ⟨S, hS⟩ : ∃ S, ls[k] = S := ⟨_, rfl⟩
          have HS := Lib.hid hS
          rw [hS] at hcell
          clear hS
          by_cases h100 : S.size ≤ 100
          · have h100' : ¬ (100 : Int) < (S.size : Int) := by omega
            go_wp2_with (go_at_call 6; refine (readable_any S (by omega) _).mono ?_; rintro e w' ⟨bb, rfl, hb1, rfl⟩; refine Hid.out ?_)
            refine Lib.hid ?_
            cases bb with
            | false =>
              clear hb1
              go_wp2_with fail
              go_ret
              exact ⟨rfl, Below.refl _ _⟩
            | true =>
              obtain ⟨lr, hlr⟩ := hb1 rfl
              have HU2 := Lib.hid (Utf.of_rem hlr)
              clear hb1 hlr
              go_wp2_with (go_at_call 7; refine (feed9_any S h100 _).mono ?_; rintro e w' ⟨b2, rfl, hb2, rfl⟩; refine Hid.out ?_)
              refine Lib.hid ?_
              cases b2 with
              | true =>
                clear hb2
                go_wp2_with fail
                go_ret
                exact ⟨rfl, Below.refl _ _⟩
              | false =>
                have HN := Lib.hid (hb2 rfl)
                clear hb2
                have HA2 := Lib.hid (show ∀ j (hj : j < ls.length), j < k + 1 → (10 : UInt8) ∉ (ls[j]'hj).data.toList ∧ (ls[j]'hj).size ≤ 100 from fun j hj h => by
                  rcases Nat.lt_or_ge j k with h' | h'
                  · exact HA.out j hj h'
                  · obtain rfl : j = k := by omega
                    rw [HS.out]
                    exact ⟨HN.out, h100⟩)
                by_cases hk0 : k = 0
                · have HT2 := Lib.hid (show (T ++ S).data.toList = tx ls (k + 1) by
                    subst hk0
                    rw [ba_app, HT.out, tx_zero ls hlt, HS.out]
                    rfl)
                  have HU3 := Lib.hid (show Utf (T ++ S).data.toList by rw [ba_app]; exact HU.out.app HU2.out)
                  have hz3 : (T ++ S).size ≤ 101 * (k + 1) := by rw [ByteArray.size_append]; omega
                  have h0 : ¬ (0 : Int) < (k : Int) := by omega
                  clear hk0
                  go_wp2_with fail
                  go_round
                  case rel => exact ⟨k + 1, T ++ S, by omega, by go_num, rfl, hz3, HT2, HU3, HA2⟩
                  case measure => simp [intOf]; omega
                · obtain ⟨m, rfl⟩ : ∃ m, k = m + 1 := ⟨k - 1, by omega⟩
                  clear hk0
                  have h0 : (0 : Int) < ((m + 1 : Nat) : Int) := by omega
                  have HT2 := Lib.hid (show (T ++ { data := #[10] } ++ S).data.toList = tx ls (m + 1 + 1) by
                    rw [ba_app, ba_app, HT.out, tx_step ls m hlt, HS.out])
                  have HU3 := Lib.hid (show Utf (T ++ { data := #[10] } ++ S).data.toList by rw [ba_app, ba_app]; exact (HU.out.app Utf.ten).app HU2.out)
                  have hz1 : (T ++ { data := #[10] }).size ≤ 101 * (m + 1) + 1 := by rw [ByteArray.size_append]; have : (ByteArray.mk #[10]).size = 1 := rfl; omega
                  have hz3 : (T ++ { data := #[10] } ++ S).size ≤ 101 * (m + 1 + 1) := by rw [ByteArray.size_append]; omega
                  go_wp2_with fail
                  go_round
                  case rel => exact ⟨m + 1 + 1, _, by omega, by go_num, rfl, hz3, HT2, HU3, HA2⟩
                  case measure => simp [intOf]; omega
          · have h100' : (100 : Int) < (S.size : Int) := by omega
            go_wp2_with fail
            go_ret
            exact ⟨rfl, Below.refl _ _⟩
        · obtain rfl : k = ls.length := by omega
          have hLl : L < ls.length := by omega
          obtain ⟨bl, off, rfl, hbl, hcell⟩ := HR.out.at_ hLl
          have hs100 := (HA.out L hLl hLl).2
          have HC := Lib.hid (fun (x y : Nat) (q1 : 1 ≤ x) (q2 : x ≤ y) (q3 : y ≤ (ls[L]'hLl).size) => parts_law T ls L x y w HU.out.rem (by omega) HT.out (fun j hj => (HA.out j hj hj).1) hLl hi2 hs100 q1 q2 q3)
          obtain ⟨S, hS⟩ : ∃ S, ls[L] = S := ⟨_, rfl⟩
          rw [hS] at hcell hs100 HC
          clear hS HT HU HA
          by_cases g1 : a < 1
          · go_wp2_with fail
            go_ret
            exact ⟨rfl, Below.refl _ _⟩
          · by_cases g2 : b < a
            · go_wp2_with fail
              go_ret
              exact ⟨rfl, Below.refl _ _⟩
            · by_cases g3 : (S.size : Int) < b
              · go_wp2_with fail
                go_ret
                exact ⟨rfl, Below.refl _ _⟩
              · obtain ⟨x, rfl⟩ : ∃ x : Nat, a = x := ⟨a.toNat, by omega⟩
                obtain ⟨y, rfl⟩ : ∃ y : Nat, b = y := ⟨b.toNat, by omega⟩
                have hc := HC.out x y (by omega) (by omega) (by omega)
                go_wp2_with (go_at_call 8; (with_reducible refine hc.mono ?_); rintro e w' ⟨S2, S3, rfl, hall, hz2, hz3, hb⟩; refine Hid.out ?_)
                refine Lib.hid ?_
                clear hc
                have hz1 : (S.extract 0 (x - 1)).size ≤ 100 := by rw [← size_list, ext_list, List.length_take]; rw [List.length_drop, size_list]; omega
                have hz4 : (S.extract 0 (x - 1) ++ S2).size ≤ 201 := by rw [ByteArray.size_append]; omega
                have hz5 : (S.extract 0 (x - 1) ++ S2 ++ S3).size ≤ 100 := by rw [hall]; exact hs100
                have HB := Lib.hid hb
                clear hb
                go_wp2_with fail
                go_ret
                exact ⟨rfl, HB.out⟩
  · go_enter Tryd.func3, Tryd.ntmps3
    go_wp2_with (go_at_call 5; refine (fits5_any _ ls _ _ HR.out hl).mono ?_; rintro e w' ⟨bb, rfl, rfl⟩; refine Hid.out ?_)
    refine Lib.hid ?_
    cases bb with
    | false =>
      go_wp2_with fail
      go_ret
      exact ⟨rfl, Below.refl _ _⟩
    | true =>
      by_cases q1 : line < 0
      · go_wp2_with fail
        go_ret
        exact ⟨rfl, Below.refl _ _⟩
      · by_cases q2 : line < ls.length
        · have q3 : (20 : Int) < (ls.length : Int) := by omega
          clear hin
          go_wp2_with fail
          go_ret
          exact ⟨rfl, Below.refl _ _⟩
        · have q3 : (ls.length : Int) ≤ line := by omega
          clear hin q2
          go_wp2_with fail
          go_ret
          exact ⟨rfl, Below.refl _ _⟩
end Go.Proofs.YtlbgmcpjdfoalaaDoor
