/- spec.OfUnits: the string of code points; laws.units9. -/
import Derived.Test.YtenibebomafdmaaDoorTrF
namespace Go.Proofs.YtenibebomafdmaaDoor
open Go.RowKit Rune

theorem u8_info : (Tryd.prog.info? 5).map (fun i => (i.zero, i.size, i.bytes)) = some (some (.int .u8 0), 1, 1) := by kernel_rfl
theorem strCells_app (a b : ByteArray) : Lib.strCells a ++ Lib.strCells b = Lib.strCells (a ++ b) := by
  simp [Lib.strCells]
theorem conv_own {w : World} {B : Nat} {v : Value} {s : ByteArray} (h : w.ownsRow B 5 1 v s.size (Lib.strCells s)) (hn : v ≠ .slice none 0 0) : (Go.convert 36 9 v).run Tryd.prog w = .ok (.string s) w := by
  rcases h.2 with ⟨h0, _⟩ | ⟨g, cap, cur, rfl, hb, hg, _⟩
  · exact absurd h0 hn
  · have hl : s.data.toList.length = s.size := by rw [Array.length_toList]; rfl
    have := run_convert_bytes_back (P := Tryd.prog) w 36 9 5 ⟨g, 0, none⟩ cap s.data.toList Tryd.underlying36 Tryd.underlying5 Tryd.underlying9 (fun j hj => by
      refine h.cells (g := g) rfl j _ ?_
      simp only [Lib.strCells, List.getElem?_map]
      rw [List.getElem?_eq_getElem hj]
      rfl)
    rw [hl] at this
    rw [this]
theorem ofR_nil : ofR [] = ⟨#[]⟩ := rfl
theorem grown_of_below {w w' : World} (h : Below w.heap.size w w') : w.grownBy w' none := ⟨h.os, h.tape, h.output, h.size, fun i hi _ => h.block i hi⟩
theorem own_start (w : World) : (w.alloc (.cells #[] 5)).ownsRow w.heap.size 5 1 (.slice (some ⟨w.heap.size, 0, none⟩) 0 0) (ofR []).size (Lib.strCells (ofR [])) :=
  ⟨by simp [Lib.strCells_length], .inr ⟨w.heap.size, 0, #[], rfl, Nat.le_refl _, heap_alloc_new w _, Nat.le_refl _, by simp, rfl, rfl⟩⟩
theorem ofR_more {l : List Nat} {k : Nat} (h : k < l.length) : ofR (l.take (k + 1)) = ofR (l.take k) ++ ofR [l[k]] := by
  rw [← ofR_app, List.take_add_one, List.getElem?_eq_getElem h]
  rfl
theorem ofR_size4 : ∀ {l : List Nat}, (∀ n ∈ l, okR n) → (ofR l).size ≤ 4 * l.length
  | [], _ => by rw [ofR_size]; simp [enc]
  | n :: l, h => by
    have h1 := (encB_pos (h n (by simp))).2
    have h2 := ofR_size4 (l := l) (fun m hm => h m (by simp [hm]))
    rw [ofR_size] at h2 ⊢
    rw [enc_cons, List.length_append, List.length_cons]
    omega
def OfP (l : List Nat) (w : World) (e : Ending) (w' : World) : Prop := e = .returned (.string (ofR l)) ∧ Below w.heap.size w w'
def OfL (l : List Nat) (k : Nat) (v : Value) (w wr : World) : Prop := wr.ownsRow w.heap.size 5 1 v (ofR (l.take k)).size (Lib.strCells (ofR (l.take k))) ∧ v ≠ .slice none 0 0 ∧ Below w.heap.size w wr
set_option maxRecDepth 100000 in
set_option maxHeartbeats 1000000 in
theorem ofUnits_any (l : List Nat) (v : Value) (w : World) (hr : RowU w w.heap.size v l) (hv : ∀ n ∈ l, okR n) (hl : l.length ≤ 2000) : Calls Tryd.prog 7 #[v] w (OfP l w) := by
  obtain ⟨A, c, rfl, _, hr⟩ := hr
  obtain ⟨i0, hi, hz0, hz1, hz2⟩ := info_parts u8_info
  have HR := Lib.hid hr
  have HV := Lib.hid hv
  clear hr hv
  go_enter Tryd.func7, Tryd.ntmps7
  go_wp2_with fail
  have hb1 : Below w.heap.size w (w.alloc (.cells #[] 5)) := (Below.refl _ _).alloc (Nat.le_refl _) _
  have HS := Lib.hid (show OfL l 0 (.slice (some ⟨w.heap.size, 0, none⟩) 0 0) w (w.alloc (.cells #[] 5)) from ⟨own_start w, by simp, hb1⟩)
  generalize w.alloc (.cells #[] 5) = W1 at HS hb1 ⊢
  clear hb1
  go_loopw [3, 4] (fun v i wr => ∃ k : Nat, k ≤ l.length ∧ i = .int .i64 k ∧ Hid (OfL l k v w wr)) (fun _ i _ => l.length - (intOf i).toNat)
  case atStart => exact ⟨0, Nat.zero_le _, rfl, HS⟩
  case round =>
    obtain ⟨k, hk, rfl, HS⟩ := hrel
    by_cases hlt : k < l.length
    · have hlt' : (k : Int) < (l.length : Int) := by omega
      obtain ⟨b, off, rfl, hb, hcell⟩ := (HR.out.below HS.out.2.2 (Nat.le_refl _)).get (k := k) (u := .int .i64 (l[k] : Nat)) (by simp [units, hlt])
      have HE := Lib.hid (encoded_any l[k] (HV.out _ (List.getElem_mem hlt)) wr)
      have HT := Lib.hid (ofR_more hlt)
      have HZ := Lib.hid (ofR_size4 (l := l.take (k + 1)) (fun n hn => HV.out n (List.mem_of_mem_take hn)))
      generalize l[k] = x at hcell HE HT
      go_wp2_with fail
      refine HE.out.mono ?_
      rintro e w2 ⟨rfl, hb2⟩
      obtain ⟨hown, hnn, hbw⟩ := HS.out
      have hown2 := hown.kept (grown_of_below hb2) (Classical.em _)
      have HO := Lib.hid hown2
      have HB := Lib.hid (bnext hbw hb2)
      have hsz : (ofR (l.take k)).size + (ofR [x]).size ≤ 8000 := by
        have h1 := HZ.out
        rw [HT.out, ByteArray.size_append] at h1
        have : (l.take (k + 1)).length ≤ 2000 := by rw [List.length_take]; omega
        omega
      have hbase : w.heap.size ≤ w2.heap.size := Nat.le_trans hbw.size hb2.size
      have HSZ := Lib.hid (show (ofR (l.take k)).size + (ofR [x]).size ≤ maxLen by unfold maxLen; omega)
      have HSZ2 := Lib.hid (show (ofR (l.take k)).size + (ofR [x]).size ≤ 140737488355328 by omega)
      have HN := Lib.hid hnn
      clear hown hown2 hnn hbw hb2 hsz
      go_wp2_with (at_builtin; refine Lib.wpList_append_own_string _ rfl _ _ 36 9 rfl w.heap.size 5 i0 Tryd.underlying36 Tryd.underlying9 hi hz0 hz1 hz2 _ _ _ rfl HO.out (ofR [x]) rfl HSZ.out HSZ2.out hbase ?_; intro v' w3 hown3 hg3 hnil3; go_frame)
      have hS : OfL l (k + 1) v' w w3 := by
        refine ⟨?_, fun h => HN.out (hnil3.1 h).1, HB.out.grown hg3 hbase (fun j hj => (HO.out.lt j hj).1)⟩
        rw [HT.out, ByteArray.size_append, ← strCells_app]
        exact hown3
      have HS3 := Lib.hid hS
      clear hS hown3 hg3 hnil3
      go_wp2_with fail
      go_roundw
      case rel => exact ⟨k + 1, by omega, by go_num, HS3⟩
      case measure => simp [intOf]; omega
    · obtain rfl : k = l.length := by omega
      obtain ⟨hown, hnn, hbw⟩ := HS.out
      rw [List.take_length] at hown
      have hcv := conv_own hown hnn
      have HB := Lib.hid hbw
      clear hown hnn hbw
      go_wp2_with fail
      go_ret
      exact ⟨rfl, HB.out⟩

def U9P (s : ByteArray) (w : World) (e : Ending) (w' : World) : Prop :=
  (e = .returned (.tuple #[.slice none 0 0, .bool false]) ∧ Below w.heap.size w w') ∨
  ∃ v l, e = .returned (.tuple #[v, .bool true]) ∧ ReadTo s s.size l ∧ l.length ≤ 2000 ∧ s.size ≤ 2000 ∧ RowU w' w'.heap.size v l ∧ Below w.heap.size w w'
theorem units9_any (s : ByteArray) (hs : s.size ≤ 2000) (w : World) : Calls Tryd.prog 4 #[.string s] w (U9P s w) := by
  have hs' : (s.size : Int) ≤ 2000 := by omega
  go_enter Tryd.func4, Tryd.ntmps4
  go_wp2_with fail
  refine (units_any s (by omega) _).mono ?_
  rintro e w1 h
  rcases h with ⟨rfl, hb⟩ | ⟨v, l, rfl, hr, hv, hb⟩
  · go_wp2_with fail
    go_ret2
    exact .inl ⟨rfl, hb⟩
  · have HR := Lib.hid hr
    have HV := Lib.hid hv
    clear hr hv
    go_wp2_with fail
    go_ret2
    exact .inr ⟨v, l, rfl, HR.out, by have := HR.out.len; omega, hs, HV.out, hb⟩
theorem units9_long (s : ByteArray) (hs : 2000 < s.size) (hs2 : s.size ≤ 9223372036854775807) (w : World) : Calls Tryd.prog 4 #[.string s] w (U9P s w) := by
  have hs' : (2000 : Int) < (s.size : Int) := by omega
  go_enter Tryd.func4, Tryd.ntmps4
  go_wp2_with fail
  go_ret2
  exact .inl ⟨rfl, Below.refl _ _⟩
end Go.Proofs.YtenibebomafdmaaDoor
