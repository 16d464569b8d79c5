/- spec.point: the code point at a place of a string, by its bytes. Where it is one, its bytes stand there. -/
import Derived.Test.YtenibebomafdmaaDoorRune
import Derived.Test.YtenibebomafdmaaDoorRow
namespace Go.Proofs.YtenibebomafdmaaDoor
open Go.RowKit Rune

/-- The byte d stands at place j. -/
def atB (s : ByteArray) (j d : Nat) : Prop := ∃ b : UInt8, s.data.toList[j]? = some b ∧ b.toNat = d
theorem atB_get {s : ByteArray} {j : Nat} (h : j < s.size) : atB s j (s[j]'h).toNat := ⟨s[j], by simp [ByteArray.getElem_eq_getElem_data, h], rfl⟩
theorem atB_of {s : ByteArray} {j d : Nat} (h : atB s j d) : s.data.toList[j]? = some (UInt8.ofNat d) := by
  obtain ⟨b, hb, rfl⟩ := h
  rw [hb, UInt8.ofNat_toNat]

/-- What has been read behind k bytes. -/
def Pref (s : ByteArray) (i c k r : Nat) : Prop :=
  (k = 1 ∧ r = c) ∨
  (k = 2 ∧ ∃ d, atB s (i + 1) d ∧ 128 ≤ d ∧ d < 192 ∧ r = c * 64 + (d - 128)) ∨
  (k = 3 ∧ ∃ d e, atB s (i + 1) d ∧ 128 ≤ d ∧ d < 192 ∧ atB s (i + 2) e ∧ 128 ≤ e ∧ e < 192 ∧ r = (c * 64 + (d - 128)) * 64 + (e - 128)) ∨
  (k = 4 ∧ ∃ d e f, atB s (i + 1) d ∧ 128 ≤ d ∧ d < 192 ∧ atB s (i + 2) e ∧ 128 ≤ e ∧ e < 192 ∧ atB s (i + 3) f ∧ 128 ≤ f ∧ f < 192 ∧ r = ((c * 64 + (d - 128)) * 64 + (e - 128)) * 64 + (f - 128))
theorem Pref.step {s : ByteArray} {i c k r d : Nat} (h : Pref s i c k r) (hk : k < 4) (hd : atB s (i + k) d) (h1 : 128 ≤ d) (h2 : d < 192) : Pref s i c (k + 1) (r * 64 + (d - 128)) := by
  rcases h with ⟨rfl, h⟩ | ⟨rfl, d1, a1, b1, c1, h⟩ | ⟨rfl, d1, d2, a1, b1, c1, a2, b2, c2, h⟩ | ⟨h, _⟩
  · exact .inr (.inl ⟨rfl, d, hd, h1, h2, by rw [h]⟩)
  · exact .inr (.inr (.inl ⟨rfl, d1, d, a1, b1, c1, hd, h1, h2, by rw [h]⟩))
  · exact .inr (.inr (.inr ⟨rfl, d1, d2, d, a1, b1, c1, a2, b2, c2, hd, h1, h2, by rw [h]⟩))
  · omega
theorem Pref.bound {s : ByteArray} {i c k r : Nat} (h : Pref s i c k r) (hc : c < 32) : 1 ≤ k ∧ k ≤ 4 ∧ r < 8388608 := by
  rcases h with ⟨h1, h2⟩ | ⟨h1, d1, a1, b1, c1, h2⟩ | ⟨h1, d1, d2, a1, b1, c1, a2, b2, c2, h2⟩ | ⟨h1, d1, d2, d3, a1, b1, c1, a2, b2, c2, a3, b3, c3, h2⟩ <;> omega

def PointAt (s : ByteArray) (i r n : Nat) : Prop := okR r ∧ n = (encB r).length ∧ ∀ k x, (encB r)[k]? = some x → s.data.toList[i + k]? = some x
theorem at_list {s : ByteArray} {i : Nat} {l : List UInt8} (h : ∀ k (hk : k < l.length), s.data.toList[i + k]? = some (l[k])) : ∀ k x, l[k]? = some x → s.data.toList[i + k]? = some x := by
  intro k x hx
  obtain ⟨hk, rfl⟩ := List.getElem?_eq_some_iff.1 hx
  exact h k hk

theorem pt1 {s : ByteArray} {i c : Nat} (h0 : atB s i c) (hc : c < 128) : PointAt s i c 1 := by
  refine ⟨by unfold okR; omega, by rw [enc1 hc]; rfl, ?_⟩
  rw [enc1 hc]
  refine at_list fun k hk => ?_
  obtain rfl : k = 0 := by simpa using hk
  exact atB_of h0
theorem pt2 {s : ByteArray} {i c r : Nat} (h0 : atB s i c) (h1 : 192 ≤ c) (h2 : c < 224) (h : Pref s i (c - 192) 2 r) (hl : 128 ≤ r) : PointAt s i r 2 := by
  rcases h with ⟨h, _⟩ | ⟨_, d1, a1, b1, c1, hq⟩ | ⟨h, _⟩ | ⟨h, _⟩
  · omega
  · have hr : r < 2048 := by omega
    have he := enc2 hl hr
    have e1 : 192 + r / 64 = c := by omega
    have e2 : 128 + r % 64 = d1 := by omega
    rw [e1, e2] at he
    refine ⟨by unfold okR; omega, by rw [he]; rfl, ?_⟩
    rw [he]
    refine at_list fun k hk => ?_
    have hk' : k < 2 := by simpa using hk
    rcases Nat.lt_or_ge k 1 with h' | h'
    · obtain rfl : k = 0 := by omega
      exact atB_of h0
    · obtain rfl : k = 1 := by omega
      exact atB_of a1
  · omega
  · omega
theorem pt3 {s : ByteArray} {i c r : Nat} (h0 : atB s i c) (h1 : 224 ≤ c) (h2 : c < 240) (h : Pref s i (c - 224) 3 r) (hl : 2048 ≤ r) (hs : ¬ (55296 ≤ r ∧ r < 57344)) : PointAt s i r 3 := by
  rcases h with ⟨h, _⟩ | ⟨h, _⟩ | ⟨_, d1, d2, a1, b1, c1, a2, b2, c2, hq⟩ | ⟨h, _⟩
  · omega
  · omega
  · have hr : r < 65536 := by omega
    have hv : okR r := by unfold okR; omega
    have he := enc3 hv hl hr
    have e1 : 224 + r / 4096 = c := by omega
    have e2 : 128 + r / 64 % 64 = d1 := by omega
    have e3 : 128 + r % 64 = d2 := by omega
    rw [e1, e2, e3] at he
    refine ⟨hv, by rw [he]; rfl, ?_⟩
    rw [he]
    refine at_list fun k hk => ?_
    have hk' : k < 3 := by simpa using hk
    rcases Nat.lt_or_ge k 1 with h' | h'
    · obtain rfl : k = 0 := by omega
      exact atB_of h0
    · rcases Nat.lt_or_ge k 2 with h'' | h''
      · obtain rfl : k = 1 := by omega
        exact atB_of a1
      · obtain rfl : k = 2 := by omega
        exact atB_of a2
  · omega
theorem pt4 {s : ByteArray} {i c r : Nat} (h0 : atB s i c) (h1 : 240 ≤ c) (h2 : c < 248) (h : Pref s i (c - 240) 4 r) (hl : 65536 ≤ r) (hm : r ≤ 1114111) : PointAt s i r 4 := by
  rcases h with ⟨h, _⟩ | ⟨h, _⟩ | ⟨h, _⟩ | ⟨_, d1, d2, d3, a1, b1, c1, a2, b2, c2, a3, b3, c3, hq⟩
  · omega
  · omega
  · omega
  · have hv : okR r := by unfold okR; omega
    have he := enc4 hv hl
    have e1 : 240 + r / 262144 = c := by omega
    have e2 : 128 + r / 4096 % 64 = d1 := by omega
    have e3 : 128 + r / 64 % 64 = d2 := by omega
    have e4 : 128 + r % 64 = d3 := by omega
    rw [e1, e2, e3, e4] at he
    refine ⟨hv, by rw [he]; rfl, ?_⟩
    rw [he]
    refine at_list fun k hk => ?_
    have hk' : k < 4 := by simpa using hk
    rcases Nat.lt_or_ge k 1 with h' | h'
    · obtain rfl : k = 0 := by omega
      exact atB_of h0
    · rcases Nat.lt_or_ge k 2 with h'' | h''
      · obtain rfl : k = 1 := by omega
        exact atB_of a1
      · rcases Nat.lt_or_ge k 3 with h3 | h3
        · obtain rfl : k = 2 := by omega
          exact atB_of a2
        · obtain rfl : k = 3 := by omega
          exact atB_of a3

theorem intEq {k : IntKind} {a b : Int} (h : a = b) : Value.int k a = Value.int k b := by rw [h]
def PointP (s : ByteArray) (i : Nat) (w : World) (e : Ending) (w' : World) : Prop := ∃ r n : Nat, e = .returned (.tuple #[.int .i64 r, .int .i64 n]) ∧ (n ≠ 0 → PointAt s i r n) ∧ w = w'
theorem PointP.no (s : ByteArray) (i : Nat) (w : World) : PointP s i w (.returned (.tuple #[.int .i64 0, .int .i64 0])) w := ⟨0, 0, rfl, (fun h => absurd rfl h), rfl⟩

set_option maxRecDepth 100000 in
set_option maxHeartbeats 1000000 in
theorem point_2 (s : ByteArray) (i : Nat) (hi : i < s.size) (hz : s.size ≤ 9223372036854775807) (h1 : 192 ≤ (s[i]'hi).toNat) (h2 : (s[i]'hi).toNat < 224) (w : World) : Calls Tryd.prog 14 #[.string s, .int .i64 i] w (PointP s i w) := by
  have h1' : (192 : Int) ≤ ((s[i]'hi).toNat : Int) := by omega
  have h2' : ((s[i]'hi).toNat : Int) < 224 := by omega
  have HA := Lib.hid (atB_get hi)
  have hC : (s[i]'hi).toNat - 192 < 32 := by omega
  obtain ⟨c0, hc0⟩ : ∃ c0, (s[i]'hi).toNat - 192 = c0 := ⟨_, rfl⟩
  have HC := Lib.hid hc0
  rw [hc0] at hC
  clear hc0
  by_cases hsz : i + 2 ≤ s.size
  · have hsz' : (2 : Int) ≤ (s.size : Int) - (i : Int) := by omega
    go_enter Tryd.func14, Tryd.ntmps14
    go_wp2
    go_loop [4, 5, 8, 9] (fun r q k d => ∃ (kn rn : Nat), r = .int .i64 rn ∧ k = .int .i64 kn ∧ q = .int .i64 2 ∧ kn ≤ 2 ∧ Hid (Pref s i c0 kn rn)) (fun _ _ k _ => 2 - (intOf k).toNat)
    case atStart => exact ⟨1, c0, by rw [← HC.out]; congr 1; omega, rfl, rfl, by omega, Lib.hid (.inl ⟨rfl, rfl⟩)⟩
    case round =>
      obtain ⟨kn, rn, rfl, rfl, rfl, hkn, HP⟩ := hrel
      have hbd := HP.out.bound hC
      have hb1 := hbd.1
      have hb3 := hbd.2.2
      clear hbd
      by_cases hlt : kn < 2
      · have hik : i + kn < s.size := by omega
        have hv := (s[i + kn]'hik).toNat_lt
        have hv0 : (0 : Int) ≤ ((s[i + kn]'hik).toNat : Int) := by omega
        have hv1 : ((s[i + kn]'hik).toNat : Int) ≤ 255 := by omega
        have HD := Lib.hid (atB_get hik)
        clear hv
        go_wp2
        · go_ret2
          exact PointP.no _ _ _
        · go_ret2
          exact PointP.no _ _ _
        · go_round
          case rel =>
            have d1 : 128 ≤ (s[i + kn]'hik).toNat := by omega
            have d2 : (s[i + kn]'hik).toNat < 192 := by omega
            exact ⟨kn + 1, rn * 64 + ((s[i + kn]'hik).toNat - 128), intEq (by omega), by go_num, rfl, by omega, Lib.hid (HP.out.step (by omega) HD.out d1 d2)⟩
          case measure => simp [intOf]; omega
      · obtain rfl : kn = 2 := by omega
        obtain ⟨z, hzz⟩ : ∃ z : Int, (rn : Int) = z := ⟨_, rfl⟩
        have hz0 : 0 ≤ z := by omega
        have hz1 : z < 8388608 := by omega
        clear hb3 hb1
        rw [hzz]
        have HZ := Lib.hid hzz
        clear hzz
        go_wp2
        all_goals
          have hzz := HZ.out
          go_ret2
          first
            | exact PointP.no _ _ _
            | exact ⟨rn, 2, by rw [hzz]; rfl, fun _ => pt2 HA.out (by omega) (by omega) (by rw [HC.out]; exact HP.out) (by omega), rfl⟩
  · have hsz' : (s.size : Int) - (i : Int) < 2 := by omega
    go_enter Tryd.func14, Tryd.ntmps14
    go_wp2
    all_goals
      go_ret2
      exact PointP.no _ _ _

set_option maxRecDepth 100000 in
set_option maxHeartbeats 1000000 in
theorem point_3 (s : ByteArray) (i : Nat) (hi : i < s.size) (hz : s.size ≤ 9223372036854775807) (h1 : 224 ≤ (s[i]'hi).toNat) (h2 : (s[i]'hi).toNat < 240) (w : World) : Calls Tryd.prog 14 #[.string s, .int .i64 i] w (PointP s i w) := by
  have h1' : (224 : Int) ≤ ((s[i]'hi).toNat : Int) := by omega
  have h2' : ((s[i]'hi).toNat : Int) < 240 := by omega
  have HA := Lib.hid (atB_get hi)
  have hC : (s[i]'hi).toNat - 224 < 32 := by omega
  obtain ⟨c0, hc0⟩ : ∃ c0, (s[i]'hi).toNat - 224 = c0 := ⟨_, rfl⟩
  have HC := Lib.hid hc0
  rw [hc0] at hC
  clear hc0
  by_cases hsz : i + 3 ≤ s.size
  · have hsz' : (3 : Int) ≤ (s.size : Int) - (i : Int) := by omega
    go_enter Tryd.func14, Tryd.ntmps14
    go_wp2
    go_loop [4, 5, 8, 9] (fun r q k d => ∃ (kn rn : Nat), r = .int .i64 rn ∧ k = .int .i64 kn ∧ q = .int .i64 3 ∧ kn ≤ 3 ∧ Hid (Pref s i c0 kn rn)) (fun _ _ k _ => 3 - (intOf k).toNat)
    case atStart => exact ⟨1, c0, by rw [← HC.out]; congr 1; omega, rfl, rfl, by omega, Lib.hid (.inl ⟨rfl, rfl⟩)⟩
    case round =>
      obtain ⟨kn, rn, rfl, rfl, rfl, hkn, HP⟩ := hrel
      have hbd := HP.out.bound hC
      have hb1 := hbd.1
      have hb3 := hbd.2.2
      clear hbd
      by_cases hlt : kn < 3
      · have hik : i + kn < s.size := by omega
        have hv := (s[i + kn]'hik).toNat_lt
        have hv0 : (0 : Int) ≤ ((s[i + kn]'hik).toNat : Int) := by omega
        have hv1 : ((s[i + kn]'hik).toNat : Int) ≤ 255 := by omega
        have HD := Lib.hid (atB_get hik)
        clear hv
        go_wp2
        · go_ret2
          exact PointP.no _ _ _
        · go_ret2
          exact PointP.no _ _ _
        · go_round
          case rel =>
            have d1 : 128 ≤ (s[i + kn]'hik).toNat := by omega
            have d2 : (s[i + kn]'hik).toNat < 192 := by omega
            exact ⟨kn + 1, rn * 64 + ((s[i + kn]'hik).toNat - 128), intEq (by omega), by go_num, rfl, by omega, Lib.hid (HP.out.step (by omega) HD.out d1 d2)⟩
          case measure => simp [intOf]; omega
      · obtain rfl : kn = 3 := by omega
        obtain ⟨z, hzz⟩ : ∃ z : Int, (rn : Int) = z := ⟨_, rfl⟩
        have hz0 : 0 ≤ z := by omega
        have hz1 : z < 8388608 := by omega
        clear hb3 hb1
        rw [hzz]
        have HZ := Lib.hid hzz
        clear hzz
        go_wp2
        all_goals
          have hzz := HZ.out
          go_ret2
          first
            | exact PointP.no _ _ _
            | exact ⟨rn, 3, by rw [hzz]; rfl, fun _ => pt3 HA.out (by omega) (by omega) (by rw [HC.out]; exact HP.out) (by omega) (by omega), rfl⟩
  · have hsz' : (s.size : Int) - (i : Int) < 3 := by omega
    go_enter Tryd.func14, Tryd.ntmps14
    go_wp2
    all_goals
      go_ret2
      exact PointP.no _ _ _

set_option maxRecDepth 100000 in
set_option maxHeartbeats 1000000 in
theorem point_4 (s : ByteArray) (i : Nat) (hi : i < s.size) (hz : s.size ≤ 9223372036854775807) (h1 : 240 ≤ (s[i]'hi).toNat) (h2 : (s[i]'hi).toNat < 248) (w : World) : Calls Tryd.prog 14 #[.string s, .int .i64 i] w (PointP s i w) := by
  have h1' : (240 : Int) ≤ ((s[i]'hi).toNat : Int) := by omega
  have h2' : ((s[i]'hi).toNat : Int) < 248 := by omega
  have HA := Lib.hid (atB_get hi)
  have hC : (s[i]'hi).toNat - 240 < 32 := by omega
  obtain ⟨c0, hc0⟩ : ∃ c0, (s[i]'hi).toNat - 240 = c0 := ⟨_, rfl⟩
  have HC := Lib.hid hc0
  rw [hc0] at hC
  clear hc0
  by_cases hsz : i + 4 ≤ s.size
  · have hsz' : (4 : Int) ≤ (s.size : Int) - (i : Int) := by omega
    go_enter Tryd.func14, Tryd.ntmps14
    go_wp2
    go_loop [4, 5, 8, 9] (fun r q k d => ∃ (kn rn : Nat), r = .int .i64 rn ∧ k = .int .i64 kn ∧ q = .int .i64 4 ∧ kn ≤ 4 ∧ Hid (Pref s i c0 kn rn)) (fun _ _ k _ => 4 - (intOf k).toNat)
    case atStart => exact ⟨1, c0, by rw [← HC.out]; congr 1; omega, rfl, rfl, by omega, Lib.hid (.inl ⟨rfl, rfl⟩)⟩
    case round =>
      obtain ⟨kn, rn, rfl, rfl, rfl, hkn, HP⟩ := hrel
      have hbd := HP.out.bound hC
      have hb1 := hbd.1
      have hb3 := hbd.2.2
      clear hbd
      by_cases hlt : kn < 4
      · have hik : i + kn < s.size := by omega
        have hv := (s[i + kn]'hik).toNat_lt
        have hv0 : (0 : Int) ≤ ((s[i + kn]'hik).toNat : Int) := by omega
        have hv1 : ((s[i + kn]'hik).toNat : Int) ≤ 255 := by omega
        have HD := Lib.hid (atB_get hik)
        clear hv
        go_wp2
        · go_ret2
          exact PointP.no _ _ _
        · go_ret2
          exact PointP.no _ _ _
        · go_round
          case rel =>
            have d1 : 128 ≤ (s[i + kn]'hik).toNat := by omega
            have d2 : (s[i + kn]'hik).toNat < 192 := by omega
            exact ⟨kn + 1, rn * 64 + ((s[i + kn]'hik).toNat - 128), intEq (by omega), by go_num, rfl, by omega, Lib.hid (HP.out.step (by omega) HD.out d1 d2)⟩
          case measure => simp [intOf]; omega
      · obtain rfl : kn = 4 := by omega
        obtain ⟨z, hzz⟩ : ∃ z : Int, (rn : Int) = z := ⟨_, rfl⟩
        have hz0 : 0 ≤ z := by omega
        have hz1 : z < 8388608 := by omega
        clear hb3 hb1
        rw [hzz]
        have HZ := Lib.hid hzz
        clear hzz
        go_wp2
        all_goals
          have hzz := HZ.out
          go_ret2
          first
            | exact PointP.no _ _ _
            | exact ⟨rn, 4, by rw [hzz]; rfl, fun _ => pt4 HA.out (by omega) (by omega) (by rw [HC.out]; exact HP.out) (by omega) (by omega), rfl⟩
  · have hsz' : (s.size : Int) - (i : Int) < 4 := by omega
    go_enter Tryd.func14, Tryd.ntmps14
    go_wp2
    all_goals
      go_ret2
      exact PointP.no _ _ _

set_option maxRecDepth 100000 in
theorem point_1 (s : ByteArray) (i : Nat) (hi : i < s.size) (h : (s[i]'hi).toNat < 128) (w : World) : Calls Tryd.prog 14 #[.string s, .int .i64 i] w (PointP s i w) := by
  have h1' : ((s[i]'hi).toNat : Int) < 128 := by omega
  have h0' : (0 : Int) ≤ ((s[i]'hi).toNat : Int) := by omega
  have HA := Lib.hid (atB_get hi)
  go_enter Tryd.func14, Tryd.ntmps14
  go_wp2
  go_ret2
  exact ⟨(s[i]'hi).toNat, 1, rfl, fun _ => pt1 HA.out h, rfl⟩
set_option maxRecDepth 100000 in
theorem point_0 (s : ByteArray) (i : Nat) (hi : i < s.size) (h : (128 ≤ (s[i]'hi).toNat ∧ (s[i]'hi).toNat < 192) ∨ 248 ≤ (s[i]'hi).toNat) (w : World) : Calls Tryd.prog 14 #[.string s, .int .i64 i] w (PointP s i w) := by
  have hu := (s[i]'hi).toNat_lt
  have hu1 : ((s[i]'hi).toNat : Int) ≤ 255 := by omega
  clear hu
  rcases h with ⟨h1, h2⟩ | h1
  · have h1' : (128 : Int) ≤ ((s[i]'hi).toNat : Int) := by omega
    have h2' : ((s[i]'hi).toNat : Int) < 192 := by omega
    go_enter Tryd.func14, Tryd.ntmps14
    go_wp2
    go_ret2
    exact PointP.no _ _ _
  · have h1' : (248 : Int) ≤ ((s[i]'hi).toNat : Int) := by omega
    go_enter Tryd.func14, Tryd.ntmps14
    go_wp2
    go_ret2
    exact PointP.no _ _ _
theorem point_any (s : ByteArray) (i : Nat) (hi : i < s.size) (hz : s.size ≤ 9223372036854775807) (w : World) : Calls Tryd.prog 14 #[.string s, .int .i64 i] w (PointP s i w) := by
  rcases Nat.lt_or_ge (s[i]'hi).toNat 128 with h | h
  · exact point_1 s i hi h w
  · by_cases h0 : (s[i]'hi).toNat < 192
    · exact point_0 s i hi (.inl ⟨h, h0⟩) w
    · by_cases h1 : (s[i]'hi).toNat < 224
      · exact point_2 s i hi hz (by omega) h1 w
      · by_cases h2 : (s[i]'hi).toNat < 240
        · exact point_3 s i hi hz (by omega) h2 w
        · by_cases h3 : (s[i]'hi).toNat < 248
          · exact point_4 s i hi hz (by omega) h3 w
          · exact point_0 s i hi (.inr (by omega)) w
end Go.Proofs.YtenibebomafdmaaDoor
