/- Where a name stands in a list; names that are apart; calls. -/
import Derived.Test.YtlbgmcpjdfoalaaArA
namespace Go.Proofs.Ytlbgmcpjdfoalaa
open Go.RowKit

set_option maxHeartbeats 400000 in
theorem fits5_any (cv : Value) (ss : List ByteArray) (w : World) (B : Nat) (hr : RowV w B cv (strs ss)) (hl : ss.length ≤ 9223372036854775807) :
    Calls Try.prog 11 #[cv] w (AnyBool w) := by
  obtain ⟨A, c, rfl⟩ := hr.form
  have H := Lib.hid hr
  clear hr
  go_enter Try.func11, Try.ntmps11
  go_wp2
  · go_ret; exact ⟨_, rfl, rfl⟩
  · go_loop [10] (fun i => ∃ k : Nat, k ≤ ss.length ∧ i = .int .i64 k) (fun i => ss.length - (intOf i).toNat)
    case atStart => exact ⟨0, Nat.zero_le _, rfl⟩
    case round =>
      obtain ⟨k, hk, rfl⟩ := hrel
      by_cases hlt : k < ss.length
      · obtain ⟨b, off, rfl, hb, hcell⟩ := H.out.at_ hlt
        go_wp2
        · go_ret; exact ⟨_, rfl, rfl⟩
        · go_round
          case rel => exact ⟨k + 1, by omega, by go_num⟩
          case measure => simp [intOf]; omega
      · go_wp2
        go_ret; exact ⟨_, rfl, rfl⟩


theorem ne_of_toList {a b : ByteArray} (h : (a.toList == b.toList) = false) : a ≠ b := by
  intro e; subst e; simp at h

def PlaceP (ss : List ByteArray) (q : ByteArray) (w : World) (e : Ending) (w' : World) : Prop := ∃ n : Int, e = .returned (.int .i64 n) ∧ (n < 0 → q ∉ ss) ∧ w = w'
set_option maxHeartbeats 400000 in
theorem place_any (cv : Value) (ss : List ByteArray) (q : ByteArray) (w : World) (B : Nat) (hr : RowV w B cv (strs ss)) (hl : ss.length ≤ 9223372036854775807) :
    Calls Try.prog 25 #[cv, .string q] w (PlaceP ss q w) := by
  obtain ⟨A, c, rfl⟩ := hr.form
  have H := Lib.hid hr
  clear hr
  go_enter Try.func25, Try.ntmps25
  go_wp2
  go_loop [5] (fun i => ∃ k : Nat, k ≤ ss.length ∧ i = .int .i64 k ∧ Hid (∀ m (h : m < ss.length), m < k → ss[m] ≠ q)) (fun i => ss.length - (intOf i).toNat)
  case atStart => exact ⟨0, Nat.zero_le _, rfl, Lib.hid fun m _ h => by omega⟩
  case round =>
    obtain ⟨k, hk, rfl, HN⟩ := hrel
    by_cases hlt : k < ss.length
    · obtain ⟨b, off, rfl, hb, hcell⟩ := H.out.at_ hlt
      go_wp2
      · go_ret
        exact ⟨k, rfl, fun h => by omega, rfl⟩
      · have hne0 : (ss[k].toList == q.toList) = false := by assumption
        have hne : ss[k] ≠ q := ne_of_toList hne0
        clear hne0
        have HN2 := Lib.hid (show ∀ m (h : m < ss.length), m < k + 1 → ss[m] ≠ q from fun m h hm => by
          rcases Nat.lt_or_ge m k with h' | h'
          · exact HN.out m h h'
          · obtain rfl : m = k := by omega
            exact hne)
        clear hne
        go_round
        case rel => exact ⟨k + 1, by omega, by go_num, HN2⟩
        case measure => simp [intOf]; omega
    · obtain rfl : k = ss.length := by omega
      have HN2 := Lib.hid (show q ∉ ss from fun hm => by
        obtain ⟨m, hm', he⟩ := List.getElem_of_mem hm
        exact HN.out m hm' hm' he)
      go_wp2
      go_ret
      exact ⟨-1, rfl, fun _ => HN2.out, rfl⟩

def MentP (ss : List ByteArray) (q : ByteArray) (w : World) (e : Ending) (w' : World) : Prop := ∃ b, e = .returned (.bool b) ∧ (b = false → q ∉ ss) ∧ w = w'
theorem mentions_any (cv : Value) (ss : List ByteArray) (q : ByteArray) (w : World) (B : Nat) (hr : RowV w B cv (strs ss)) (hl : ss.length ≤ 9223372036854775807) :
    Calls Try.prog 13 #[cv, .string q] w (MentP ss q w) := by
  go_enter Try.func13, Try.ntmps13
  go_wp2_with fail
  refine (place_any cv ss q _ B hr hl).mono ?_
  rintro e w' ⟨n, rfl, hn, rfl⟩
  have HN := Lib.hid hn
  clear hn
  go_wp2_with fail
  go_ret
  exact ⟨_, rfl, fun h => HN.out (by simpa using h), rfl⟩

/-- Apart: no name stands twice. -/
def Apart (ss : List ByteArray) : Prop := ss.length ≤ 100 ∧ ∀ m n (hm : m < n) (hn : n < ss.length), ss[m]'(by omega) ≠ ss[n]
def ApartP (ss : List ByteArray) (w : World) (e : Ending) (w' : World) : Prop := ∃ b, e = .returned (.bool b) ∧ (b = true → Apart ss) ∧ Below w.heap.size w w'
theorem ApartP.no {ss : List ByteArray} {w w' : World} (h : Below w.heap.size w w') : ApartP ss w (.returned (.bool false)) w' := ⟨false, rfl, (fun h => by cases h), h⟩

set_option maxHeartbeats 1000000 in
theorem apart_any (cv : Value) (ss : List ByteArray) (w : World) (hr : RowV w w.heap.size cv (strs ss)) (hl : ss.length ≤ 9223372036854775807) (hz : ∀ s ∈ ss, s.size ≤ 9223372036854775807) :
    Calls Try.prog 24 #[cv] w (ApartP ss w) := by
  obtain ⟨A, c, rfl⟩ := hr.form
  have H := Lib.hid hr
  have HZ := Lib.hid hz
  clear hr hz
  by_cases h100 : 100 < ss.length
  · have h100' : (100 : Int) < (ss.length : Int) := by omega
    go_enter Try.func24, Try.ntmps24
    go_wp2
    go_ret
    exact .no (Below.refl _ _)
  · have h100' : (ss.length : Int) ≤ 100 := by omega
    have hl100 : ss.length ≤ 100 := by omega
    clear h100
    go_enter Try.func24, Try.ntmps24
    go_wp2
    go_loopw [3] (fun i wr => ∃ n : Nat, n ≤ ss.length ∧ i = .int .i64 n ∧ Hid (∀ m j (hm : m < j) (hj : j < ss.length), j < n → ss[m]'(by omega) ≠ ss[j]) ∧ Below w.heap.size w wr) (fun i _ => ss.length - (intOf i).toNat)
    case atStart => exact ⟨0, Nat.zero_le _, rfl, Lib.hid fun m j _ _ h => by omega, Below.refl _ _⟩
    case round =>
      obtain ⟨n, hn, rfl, HN, hb⟩ := hrel
      by_cases hlt : n < ss.length
      · have hlt' : (n : Int) < (ss.length : Int) := by omega
        obtain ⟨b, off, rfl, hbB, hcell⟩ := (H.out.below hb (Nat.le_refl _)).at_ hlt
        have hsz := HZ.out _ (List.getElem_mem hlt)
        by_cases hlong : 100 < ss[n].size
        · have hlong' : (100 : Int) < (ss[n].size : Int) := by omega
          go_wp2_with fail
          go_ret
          exact .no hb
        · have hlong' : (ss[n].size : Int) ≤ 100 := by omega
          go_wp2_with fail
          refine (ident_any _ hsz _).mono ?_
          rintro e w1 ⟨q, rfl, hb1⟩
          cases q
          · go_wp2_with fail
            go_ret
            exact .no (bnext hb hb1)
          · have hbn := Lib.hid (bnext hb hb1)
            clear hb1
            clear hcell hlong' hlong
            go_wp2_with fail
            go_loopw [4] (fun i wr => ∃ m : Nat, m ≤ n ∧ i = .int .i64 m ∧ Hid (∀ p (h : p < ss.length), p < m → ss[p] ≠ ss[n]) ∧ Below w.heap.size w wr) (fun i _ => n - (intOf i).toNat)
            case atStart => exact ⟨0, Nat.zero_le _, rfl, Lib.hid fun p _ hp => by omega, hbn.out⟩
            case round =>
              obtain ⟨m, hm, rfl, HP, hb2⟩ := hrel
              by_cases hlm : m < n
              · have hm2 : m < ss.length := by omega
                have hlm' : (m : Int) < (n : Int) := by omega
                have hlm2 : (m : Int) < (ss.length : Int) := by omega
                obtain ⟨b1, o1, hA1, _, c1⟩ := (H.out.below hb2 (Nat.le_refl _)).at_ hm2
                obtain ⟨b2, o2, hA2, _, c2⟩ := (H.out.below hb2 (Nat.le_refl _)).at_ hlt
                injection hA1 with hA1
                injection hA1 with e1 e2 _
                injection hA2 with hA2
                injection hA2 with e3 e4 _
                subst e1 e2 e3 e4
                have hm0 : (0 : Int) ≤ (m : Int) := by omega
                have hn0 : (0 : Int) ≤ (n : Int) := by omega
                cases heq : (ss[m].toList == ss[n].toList) with
                | true =>
                  go_wp2_with fail
                  go_quiet (fail)
                  go_wp2_with fail
                  go_ret
                  exact .no ⟨hb2.os, hb2.tape, hb2.output, hb2.size, hb2.block⟩
                | false =>
                  have HP2 := Lib.hid (show ∀ p (h : p < ss.length), p < m + 1 → ss[p] ≠ ss[n] from fun p h hp => by
                    rcases Nat.lt_or_ge p m with h' | h'
                    · exact HP.out p h h'
                    · obtain rfl : p = m := by omega
                      exact ne_of_toList heq)
                  go_wp2_with fail
                  go_quiet (fail)
                  go_wp2_with fail
                  go_roundw
                  case rel => exact ⟨m + 1, by omega, by go_num, HP2, ⟨hb2.os, hb2.tape, hb2.output, hb2.size, hb2.block⟩⟩
                  case measure => simp [intOf]; omega
              · obtain rfl : m = n := by omega
                have HN2 := Lib.hid (show ∀ p j (hp : p < j) (hj : j < ss.length), j < m + 1 → ss[p]'(by omega) ≠ ss[j] from fun p j hp hj hjm => by
                  rcases Nat.lt_or_ge j m with h' | h'
                  · exact HN.out p j hp hj h'
                  · obtain rfl : j = m := by omega
                    exact HP.out p (by omega) hp)
                go_wp2_with fail
                go_roundw
                case rel => exact ⟨m + 1, by omega, by go_num, HN2, hb2⟩
                case measure => simp [intOf]; omega
      · obtain rfl : n = ss.length := by omega
        have HA := Lib.hid (show Apart ss from ⟨hl100, fun m j hm hj => HN.out m j hm hj hj⟩)
        go_wp2_with fail
        go_ret
        exact ⟨true, rfl, fun _ => HA.out, hb⟩
end Go.Proofs.Ytlbgmcpjdfoalaa
