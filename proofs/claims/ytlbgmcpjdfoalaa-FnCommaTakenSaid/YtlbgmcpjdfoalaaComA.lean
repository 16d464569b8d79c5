/- spec.Feeds, laws.plainComments. -/
import Derived.Test.YtlbgmcpjdfoalaaFits
import Derived.Test.YtlbgmcpjdfoalaaElC
namespace Go.Proofs.Ytlbgmcpjdfoalaa
open Go.RowKit

def SomeI64 (w : World) (e : Ending) (w' : World) : Prop := ∃ n, e = .returned (.int .i64 n) ∧ w = w'
theorem feeds_any (s : ByteArray) (w : World) (hs : s.size ≤ 9223372036854775807) :
    Calls Try.prog 17 #[.string s] w (SomeI64 w) := by
  go_enter Try.func17, Try.ntmps17
  go_wp2
  go_loop [3, 4] (fun n i => ∃ (m : Int) (k : Nat), k ≤ s.size ∧ n = .int .i64 m ∧ i = .int .i64 k) (fun _ i => s.size - (intOf i).toNat)
  case atStart => exact ⟨0, 0, Nat.zero_le _, rfl, rfl⟩
  case round =>
    obtain ⟨m, k, hk, rfl, rfl⟩ := hrel
    go_wp2
    all_goals first
      | (go_round; (case rel => exact ⟨_, k + 1, by omega, rfl, by go_num⟩); (case measure => simp [intOf]; omega))
      | (go_ret; exact ⟨_, rfl, rfl⟩)

set_option maxHeartbeats 2000000 in
theorem plain_any (v : Value) (es : List El) (w : World) (h1 : ElsV w w.heap.size v es) (hl : es.length ≤ 9223372036854775807) (hc : ∀ x ∈ es, ShortS x.com) :
    Calls Try.prog 6 #[v] w (FodPost es w) := by
  obtain ⟨A, c, rfl⟩ := h1.form
  have H1 := Lib.hid h1
  have HC := Lib.hid hc
  clear h1 hc
  go_enter Try.func6, Try.ntmps6
  go_wp2
  go_loop [3] (fun i => ∃ k : Nat, k ≤ es.length ∧ i = .int .i64 k) (fun i => es.length - (intOf i).toNat)
  case atStart => exact ⟨0, Nat.zero_le _, rfl⟩
  case round =>
    obtain ⟨k, hk, rfl⟩ := hrel
    by_cases hlt : k < es.length
    · obtain ⟨b, off, Ac, cc, rfl, hbB, hcv, c0, c1, c2, c3⟩ := H1.out.at_ hlt
      have HS := Lib.hid (HC.out _ (List.getElem_mem hlt))
      have hlc := HS.out.1
      have HV := Lib.hid hcv
      have hlt' : (k : Int) < (es.length : Int) := by omega
      clear hcv c0 c1 c2
      generalize hcom : es[k].com = com at *
      clear hcom
      go_wp2
      go_loop [4] (fun i => ∃ j : Nat, j ≤ com.length ∧ i = .int .i64 j) (fun i => com.length - (intOf i).toNat)
      case atStart => exact ⟨0, Nat.zero_le _, rfl⟩
      case round =>
        obtain ⟨j, hj, rfl⟩ := hrel
        by_cases hjt : j < com.length
        · obtain ⟨b2, off2, rfl, hb2, hcell⟩ := HV.out.at_ hjt
          have hsz : (com[j]'hjt).size ≤ 9223372036854775807 := by have := HS.out.2 _ (List.getElem_mem hjt); omega
          have hjt' : (j : Int) < (com.length : Int) := by omega
          go_wp2_with (go_at_call 17; refine (feeds_any _ _ hsz).mono ?_; rintro e w' ⟨n, rfl, rfl⟩)
          all_goals first
            | (go_round; (case rel => exact ⟨j + 1, by omega, by go_num⟩); (case measure => simp [intOf]; omega))
            | (go_ret; exact .no (Below.refl _ _))
        · go_wp2
          go_round
          case rel => exact ⟨k + 1, by omega, by go_num⟩
          case measure => simp [intOf]; omega
    · go_wp2_with (go_at_call 18; refine (lfodder_any _ es _ H1.out hl (fun e he => by have := (HC.out e he).1; omega)).mono ?_; rintro e w' ⟨b, rfl, hb, hbl⟩)
      go_ret
      exact ⟨_, rfl, hb, hbl⟩
end Go.Proofs.Ytlbgmcpjdfoalaa
