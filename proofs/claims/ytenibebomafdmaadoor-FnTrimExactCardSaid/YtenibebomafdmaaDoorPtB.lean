/- spec.Units: the code points of a string. Where it says yes, the string is those code points' bytes. -/
import Derived.Test.YtenibebomafdmaaDoorPtA
namespace Go.Proofs.YtenibebomafdmaaDoor
open Go.RowKit Rune

def units (l : List Nat) : List Value := l.map fun n => Value.int .i64 (n : Nat)
theorem units_len (l : List Nat) : (units l).length = l.length := by simp [units]
theorem int_info : (Tryd.prog.info? 3).map (fun i => (i.zero, i.size, i.bytes)) = some (some (.int .i64 0), 1, 8) := by kernel_rfl

theorem pointAt_fits {s : ByteArray} {i r n : Nat} (h : PointAt s i r n) : 1 ≤ n ∧ n ≤ 4 ∧ i + n ≤ s.size := by
  obtain ⟨hv, hn, hs⟩ := h
  have hp := encB_pos hv
  have := get_list (hs (n - 1) _ (List.getElem?_eq_getElem (by omega : n - 1 < (encB r).length)))
  omega
theorem pointAt_take {s : ByteArray} {i r n : Nat} {l : List Nat} (h : PointAt s i r n) (hl : s.data.toList.take i = enc l) : s.data.toList.take (i + n) = enc (l ++ [r]) := by
  have hf := pointAt_fits h
  obtain ⟨hv, hn, hs⟩ := h
  have hsz : s.data.toList.length = s.size := by simp
  rw [List.take_add, hl, enc_app, enc_cons]
  have he : encB r ++ enc [] = encB r := List.append_nil _
  rw [he]
  refine congrArg (enc l ++ ·) ?_
  apply List.ext_getElem?
  intro k
  rcases Nat.lt_or_ge k n with hk | hk
  · rw [List.getElem?_take_of_lt hk, List.getElem?_drop, hs k _ (List.getElem?_eq_getElem (by omega)), List.getElem?_eq_getElem (by omega)]
  · rw [List.getElem?_eq_none (by simp; omega), List.getElem?_eq_none (by omega)]

/-- What has been read of a string up to a place. -/
def ReadTo (s : ByteArray) (i : Nat) (l : List Nat) : Prop := (∀ n ∈ l, okR n) ∧ s.data.toList.take i = enc l
theorem ReadTo.step {s : ByteArray} {i r n : Nat} {l : List Nat} (h : ReadTo s i l) (hp : PointAt s i r n) : ReadTo s (i + n) (l ++ [r]) :=
  ⟨fun m hm => by
    rw [List.mem_append] at hm
    rcases hm with hm | hm
    · exact h.1 m hm
    · simp at hm; subst hm; exact hp.1, pointAt_take hp h.2⟩
theorem ReadTo.len {s : ByteArray} {i : Nat} {l : List Nat} (h : ReadTo s i l) : l.length ≤ i := by
  have := enc_len h.1
  rw [← h.2] at this
  have h2 : (s.data.toList.take i).length ≤ i := List.length_take_le _ _
  omega
theorem ReadTo.all {s : ByteArray} {l : List Nat} (h : ReadTo s s.size l) : s.data.toList = enc l := by
  rw [← h.2, List.take_of_length_le (by simp)]

/-- A row of code points, with room for what it holds. -/
def RowU (w : World) (B : Nat) (v : Value) (l : List Nat) : Prop := ∃ A c, v = .slice A l.length c ∧ l.length ≤ c ∧ RowV w B (.slice A l.length c) (units l)
theorem own_rowU {w : World} {base : Nat} {e : TypeId} {v : Value} {l : List Nat} (h : w.ownsRow base e 1 v l.length (units l)) : RowU w w.heap.size v l := by
  have h0 := h
  obtain ⟨A, c, rfl⟩ := own_form h
  refine ⟨A, c, rfl, ?_, own_rowV h0⟩
  rcases h.2 with ⟨hv, h1⟩ | ⟨g, cap, cur, hv, _, _, hnc, _⟩
  · omega
  · injection hv with h1 h2 h3
    omega
def UnitsP (s : ByteArray) (w : World) (e : Ending) (w' : World) : Prop :=
  (e = .returned (.tuple #[.slice none 0 0, .bool false]) ∧ Below w.heap.size w w') ∨
  ∃ v l, e = .returned (.tuple #[v, .bool true]) ∧ ReadTo s s.size l ∧ RowU w' w'.heap.size v l ∧ Below w.heap.size w w'

set_option maxRecDepth 100000 in
set_option maxHeartbeats 1000000 in
theorem units_any (s : ByteArray) (hz : s.size ≤ 2147483647) (w : World) : Calls Tryd.prog 8 #[.string s] w (UnitsP s w) := by
  obtain ⟨i0, hi0, hz0, hz1, hz2⟩ := info_parts int_info
  have hz' : (s.size : Int) ≤ 2147483647 := by omega
  go_enter Tryd.func8, Tryd.ntmps8
  go_wp2
  go_loopw [4, 5] (fun v i wr => ∃ (k : Nat) (l : List Nat), k ≤ s.size ∧ i = .int .i64 k ∧ wr.ownsRow w.heap.size 3 1 v l.length (units l) ∧ Hid (ReadTo s k l) ∧ Below w.heap.size w wr) (fun _ i _ => s.size - (intOf i).toNat)
  case atStart =>
    refine ⟨0, [], Nat.zero_le _, rfl, ?_, Lib.hid ⟨by simp, rfl⟩, (Below.refl _ _).alloc (Nat.le_refl _) _⟩
    exact World.ownsRow_made w #[] 0 (Nat.le_refl _) (by unfold maxLen; omega) rfl
  case round =>
    obtain ⟨k, l, hk, rfl, hown, HR, hb⟩ := hrel
    obtain ⟨A4, c4, rfl⟩ := own_form hown
    have HO := Lib.hid hown
    clear hown
    by_cases hlt : k < s.size
    · have hsz := hb.size
      have hll := HR.out.len
      go_wp2_with fail
      refine (point_any s k hlt (by omega) _).mono ?_
      rintro e w1 ⟨r, n, rfl, hp, rfl⟩
      rcases Nat.eq_zero_or_pos n with rfl | hn
      · clear hp
        go_wp2_with fail
        go_ret2
        exact .inl ⟨rfl, hb⟩
      · have hpt := hp (by omega)
        clear hp
        have hfit := pointAt_fits hpt
        have hf2 := hfit.2.2
        have hrb : (r : Int) ≤ 1114111 := by have := hpt.1; unfold okR at this; omega
        have hn0 : ((n : Int) == 0) = false := by simp; omega
        have HN := Lib.hid (HR.out.step hpt)
        clear hpt hfit
        go_wp2_with (refine wpList_append_rowV _ rfl (.tmp 21) (.tmp 23) 22 rfl w.heap.size 3 i0 _ 1 8 Tryd.underlying22 hi0 hz0 hz1 hz2 rfl (by omega) (.slice A4 l.length c4) l.length (units l) rfl (HO.out.alloc _) (some ⟨wr.heap.size, 0, none⟩) 1 1 [.int .i64 r] rfl rfl (fun _ => ⟨_, rfl, news_at rfl⟩) (by simp [Value.oneCell']) (by unfold maxLen; omega) (by omega) (by simp; omega) ?_; intro A5 c5 w5 hap)
        have hbe : Below w.heap.size w w5 := (hb.alloc hsz _).grown hap.grown (by simp; omega) (fun g hg => (HO.out.lt g hg).1)
        have how : w5.ownsRow w.heap.size 3 1 (.slice A5 (l.length + 1) c5) (l ++ [r]).length (units (l ++ [r])) := by
          have e : units (l ++ [r]) = units l ++ [.int .i64 r] := by simp [units]
          rw [e, List.length_append]
          exact hap.own
        have HBE := Lib.hid hbe
        have HOWN := Lib.hid how
        clear hbe how hap
        go_wp2
        go_roundw
        case rel => exact ⟨k + n, l ++ [r], by omega, by go_num, HOWN.out, HN, HBE.out⟩
        case measure => simp [intOf]; omega
    · obtain rfl : k = s.size := by omega
      have hrow := own_rowU HO.out
      have HRW := Lib.hid hrow
      clear hrow
      go_wp2
      go_ret2
      exact .inr ⟨_, l, rfl, HR.out, HRW.out, hb⟩
end Go.Proofs.YtenibebomafdmaaDoor
