/- Names: letters, digits, words, keywords, identifiers; where a name stands in a list; names that are apart. -/
import Derived.Test.YtlbgmcpjdfoalaaRow
namespace Go.Proofs.Ytlbgmcpjdfoalaa
open Go.RowKit

def AnyBool (w : World) (e : Ending) (w' : World) : Prop := ∃ b, e = .returned (.bool b) ∧ w = w'
def AnyBoolB (w : World) (e : Ending) (w' : World) : Prop := ∃ b, e = .returned (.bool b) ∧ Below w.heap.size w w'
theorem bnext {w w1 w2 : World} (h1 : Below w.heap.size w w1) (h2 : Below w1.heap.size w1 w2) : Below w.heap.size w w2 := h1.trans (h2.mono h1.size)

theorem digit_any (c : Int) (w : World) : Calls Try.prog 44 #[.int .u8 c] w (AnyBool w) := by
  go_enter Try.func44, Try.ntmps44
  go_wp2
  all_goals (go_ret; exact ⟨_, rfl, rfl⟩)
theorem letter_any (c : Int) (w : World) : Calls Try.prog 43 #[.int .u8 c] w (AnyBool w) := by
  go_enter Try.func43, Try.ntmps43
  go_wp2
  all_goals (go_ret; exact ⟨_, rfl, rfl⟩)

theorem size_pos {s : ByteArray} (h : s.toList.isEmpty = false) : 0 < s.size := by
  rcases Nat.eq_zero_or_pos s.size with h0 | h0
  · exfalso
    unfold ByteArray.toList ByteArray.toList.loop at h
    rw [if_neg (by omega)] at h
    simp at h
  · exact h0

set_option maxHeartbeats 400000 in
theorem word_any (s : ByteArray) (hs : s.size ≤ 9223372036854775807) (w : World) : Calls Try.prog 38 #[.string s] w (AnyBool w) := by
  cases h0 : s.toList.isEmpty with
  | true =>
    go_enter Try.func38, Try.ntmps38
    go_wp2_with fail
    go_ret
    exact ⟨_, rfl, rfl⟩
  | false =>
    have h1 := size_pos h0
    have h2 : (0 : Int) < (s.size : Int) := by omega
    go_enter Try.func38, Try.ntmps38
    go_wp2_with fail
    refine (letter_any _ _).mono ?_
    rintro e w' ⟨b, rfl, rfl⟩
    cases b
    · go_wp2_with fail
      go_ret
      exact ⟨_, rfl, rfl⟩
    · go_wp2_with fail
      go_loop [3] (fun i => ∃ k : Nat, 1 ≤ k ∧ k ≤ s.size ∧ i = .int .i64 k) (fun i => s.size - (intOf i).toNat)
      case atStart => exact ⟨1, by omega, by omega, rfl⟩
      case round =>
        obtain ⟨k, hk1, hk, rfl⟩ := hrel
        by_cases hlt : k < s.size
        · have hlt' : (k : Int) < (s.size : Int) := by omega
          go_wp2_with fail
          refine (letter_any _ _).mono ?_
          rintro e w' ⟨b, rfl, rfl⟩
          cases b
          · go_wp2_with fail
            refine (digit_any _ _).mono ?_
            rintro e w' ⟨b, rfl, rfl⟩
            cases b
            · go_wp2_with fail
              go_ret
              exact ⟨_, rfl, rfl⟩
            · go_wp2_with fail
              go_round
              case rel => exact ⟨k + 1, by omega, by omega, by go_num⟩
              case measure => simp [intOf]; omega
          · go_wp2_with fail
            go_round
            case rel => exact ⟨k + 1, by omega, by omega, by go_num⟩
            case measure => simp [intOf]; omega
        · obtain rfl : k = s.size := by omega
          go_wp2_with fail
          go_ret
          exact ⟨_, rfl, rfl⟩

theorem lit_row {w : World} {cs : Array Value} {T : TypeId} (h : cs.all (fun v => match v with | .string _ => true | _ => false) = true) : ∀ k, k < cs.size → ∃ s, (w.alloc (.cells cs T)).cell? ⟨w.heap.size, k, none⟩ = some (.string s) := by
  intro k hk
  have hv := (Array.all_eq_true_iff_forall_mem.1 h) cs[k] (Array.getElem_mem hk)
  rw [World.cell?_alloc_at _ _ _ _ rfl, ]
  cases hc : cs[k] with
  | string s => exact ⟨s, by simp [hk, hc]⟩
  | _ => rw [hc] at hv; cases hv

set_option maxRecDepth 100000 in
theorem keyword_any (s : ByteArray) (w : World) : Calls Try.prog 39 #[.string s] w (AnyBoolB w) := by
  go_enter Try.func39, Try.ntmps39
  go_wp2
  go_loopw [4] (fun i wr => ∃ k : Nat, k ≤ 18 ∧ i = .int .i64 k ∧ Hid (∀ k, k < 18 → ∃ s, wr.cell? ⟨w.heap.size, k, none⟩ = some (.string s)) ∧ Below w.heap.size w wr) (fun i _ => 18 - (intOf i).toNat)
  case atStart => exact ⟨0, by omega, rfl, Lib.hid (by refine fun k hk => lit_row ?_ k hk; simp), (Below.refl _ _).alloc (Nat.le_refl _) _⟩
  case round =>
    obtain ⟨k, hk, rfl, H, hb⟩ := hrel
    by_cases hlt : k < 18
    · obtain ⟨sk, hsk⟩ := H.out k hlt
      have hlt' : (k : Int) < 18 := by omega
      go_wp2
      · go_ret
        exact ⟨_, rfl, hb⟩
      · go_roundw
        case rel => exact ⟨k + 1, by omega, by go_num, H, hb⟩
        case measure => simp [intOf]; omega
    · obtain rfl : k = 18 := by omega
      go_wp2
      go_ret
      exact ⟨_, rfl, hb⟩

theorem ident_any (s : ByteArray) (hs : s.size ≤ 9223372036854775807) (w : World) : Calls Try.prog 31 #[.string s] w (AnyBoolB w) := by
  go_enter Try.func31, Try.ntmps31
  go_wp2_with fail
  refine (word_any s hs _).mono ?_
  rintro e w' ⟨b, rfl, rfl⟩
  cases b
  · go_wp2_with fail
    go_ret
    exact ⟨_, rfl, Below.refl _ _⟩
  · go_wp2_with fail
    refine (keyword_any s _).mono ?_
    rintro e w1 ⟨b, rfl, hb⟩
    go_wp2_with fail
    go_ret
    exact ⟨_, rfl, hb⟩
end Go.Proofs.Ytlbgmcpjdfoalaa
