/- zzFits5, zzFits8, zzFits7: where they say yes, nothing is longer than zzMost. -/
import Derived.Test.YtlbgmcpjdfoalaaElA
namespace Go.Proofs.Ytlbgmcpjdfoalaa
open Go.RowKit

def ShortS (ss : List ByteArray) : Prop := ss.length ≤ 2147483647 ∧ ∀ s ∈ ss, s.size ≤ 2147483647
def Fits5 (ss : List ByteArray) (w : World) (e : Ending) (w' : World) : Prop := ∃ b, e = .returned (.bool b) ∧ (b = true → ShortS ss) ∧ w = w'
def Fits8 (x : El) (w : World) (e : Ending) (w' : World) : Prop := ∃ b, e = .returned (.bool b) ∧ (b = true → ShortS x.com) ∧ Below w.heap.size w w'
def Fits7 (es : List El) (w : World) (e : Ending) (w' : World) : Prop := ∃ b, e = .returned (.bool b) ∧ (b = true → ∀ x ∈ es, ShortS x.com) ∧ Below w.heap.size w w'

set_option maxHeartbeats 400000 in
theorem fits5_all (cv : Value) (ss : List ByteArray) (w : World) (B : Nat) (hr : RowV w B cv (strs ss)) (hl : ss.length ≤ 9223372036854775807) :
    Calls Try.prog 11 #[cv] w (Fits5 ss w) := by
  obtain ⟨A, c, rfl⟩ := hr.form
  have H := Lib.hid hr
  clear hr
  go_enter Try.func11, Try.ntmps11
  go_wp2
  · go_ret; exact ⟨false, rfl, (fun h => by cases h), rfl⟩
  · have hlen : ss.length ≤ 2147483647 := by omega
    go_loop [10] (fun i => ∃ k : Nat, k ≤ ss.length ∧ i = .int .i64 k ∧ Hid (∀ j (hj : j < ss.length), j < k → (ss[j]'hj).size ≤ 2147483647)) (fun i => ss.length - (intOf i).toNat)
    case atStart => exact ⟨0, Nat.zero_le _, rfl, Lib.hid (fun j _ hj => absurd hj (Nat.not_lt_zero j))⟩
    case round =>
      obtain ⟨k, hk, rfl, hall⟩ := hrel
      by_cases hlt : k < ss.length
      · obtain ⟨b, off, rfl, hb, hcell⟩ := H.out.at_ hlt
        go_wp2
        · go_ret; exact ⟨false, rfl, (fun h => by cases h), rfl⟩
        · have hz : (ss[k]'hlt).size ≤ 2147483647 := by omega
          go_round
          case rel =>
            refine ⟨k + 1, by omega, by go_num, Lib.hid (fun j' hj hjk => ?_)⟩
            by_cases e : j' = k
            · subst e; exact hz
            · exact hall.out j' hj (by omega)
          case measure => simp [intOf]; omega
      · go_wp2
        go_ret
        refine ⟨true, rfl, fun _ => ⟨hlen, fun s hs => ?_⟩, rfl⟩
        obtain ⟨j, hj, rfl⟩ := List.mem_iff_getElem.1 hs
        exact hall.out j hj (by omega)

set_option maxHeartbeats 400000 in
theorem fits8_all (x : El) (cv : Value) (w : World) (B : Nat) (hB : B ≤ w.heap.size) (hr : RowV w B cv (strs x.com)) (hl : x.com.length ≤ 9223372036854775807) :
    Calls Try.prog 16 #[eVal x cv] w (Fits8 x w) := by
  have hA : ∃ A c, cv = .slice A x.com.length c := by obtain ⟨A, c, rfl, _⟩ := hr; exact ⟨A, c, by rw [strs_len]⟩
  obtain ⟨A, c, rfl⟩ := hA
  unfold eVal
  go_enter Try.func16, Try.ntmps16
  go_wp2_with fail
  refine (fits5_all _ x.com _ B (hr.below ((Below.refl w.heap.size _).alloc (Nat.le_refl _) _) hB) hl).mono ?_
  rintro e w' ⟨b, rfl, hs, rfl⟩
  cases b
  · go_wp2
    go_ret; exact ⟨false, rfl, (fun h => by cases h), (Below.refl _ _).alloc (Nat.le_refl _) _⟩
  · have hs' := hs rfl
    clear hs
    go_wp2
    go_ret; exact ⟨true, rfl, (fun _ => hs'), (Below.refl _ _).alloc (Nat.le_refl _) _⟩

set_option maxHeartbeats 400000 in
theorem fits7_all (v : Value) (es : List El) (w : World) (hr : ElsV w w.heap.size v es) (hl : es.length ≤ 9223372036854775807) (hc : ∀ e ∈ es, e.com.length ≤ 9223372036854775807) :
    Calls Try.prog 5 #[v] w (Fits7 es w) := by
  have H := Lib.hid hr
  obtain ⟨A, c, rfl, _⟩ := hr
  go_enter Try.func5, Try.ntmps5
  go_wp2
  · go_ret; exact ⟨false, rfl, (fun h => by cases h), Below.refl _ _⟩
  · go_loopw [10] (fun i wr => ∃ k : Nat, k ≤ es.length ∧ i = .int .i64 k ∧ Below w.heap.size w wr ∧ Hid (∀ j (hj : j < es.length), j < k → ShortS (es[j]'hj).com)) (fun i _ => es.length - (intOf i).toNat)
    case atStart => exact ⟨0, Nat.zero_le _, rfl, Below.refl _ _, Lib.hid (fun j _ hj => absurd hj (Nat.not_lt_zero j))⟩
    case round =>
      obtain ⟨k, hk, rfl, hb, hall⟩ := hrel
      by_cases hlt : k < es.length
      · obtain ⟨b, off, Ac, cc, rfl, hbB, hcv, c0, c1, c2, c3⟩ := (H.out.below hb (Nat.le_refl _)).at_ hlt
        have hlc := hc _ (List.getElem_mem hlt)
        go_wp2_with fail
        refine (fits8_all es[k] (.slice Ac es[k].com.length cc) _ w.heap.size (by have := hb.size; simp; omega) (hcv.below ((Below.refl wr.heap.size _).alloc (Nat.le_refl _) _) hb.size) hlc).mono ?_
        rintro e w' ⟨b', rfl, hs, hb'⟩
        cases b'
        · go_wp2
          go_ret; exact ⟨false, rfl, (fun h => by cases h), (hb.alloc hb.size _).trans (hb'.mono (by have := hb.size; simp; omega))⟩
        · have hs' := Lib.hid (hs rfl)
          clear hs
          go_wp2
          go_roundw
          case rel =>
            refine ⟨k + 1, by omega, by go_num, (hb.alloc hb.size _).trans (hb'.mono (by have := hb.size; simp; omega)), Lib.hid (fun j' hj hjk => ?_)⟩
            by_cases e : j' = k
            · subst e; exact hs'.out
            · exact hall.out j' hj (by omega)
          case measure => simp [intOf]; omega
      · go_wp2
        go_ret
        refine ⟨true, rfl, fun _ x hx => ?_, hb⟩
        obtain ⟨j, hj, rfl⟩ := List.mem_iff_getElem.1 hx
        exact hall.out j hj (by omega)
end Go.Proofs.Ytlbgmcpjdfoalaa
