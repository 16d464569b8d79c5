/- The package's arrays of numbers: makeValueArray, nums. -/
import Derived.Test.YtenibebomafdmaaTuA
import Derived.Laws.CopyOwn
import Derived.Laws.MakeOwn
namespace Go.Proofs.Ytenibebomafdmaa
open Go.RowKit

/-- A new row of n nil pointers. -/
def mkRow (n : Nat) : List Value := (madeCells (Value.cells (.pointer none)) (n * 1)).toList
theorem mkRow_len (n : Nat) : (mkRow n).length = n := by
  have := size_madeCells (Value.cells (.pointer none)) (n * 1)
  unfold mkRow
  rw [Array.length_toList, this]
  omega
theorem make_run (l n : Nat) (hl : l ≤ n) (hn : n ≤ 1000) (w : World) : (Instr.makeSlice 113 (.int .i64 l) (.int .i64 n)).run Try.prog w = .ok (.slice (some ⟨w.heap.size, 0, none⟩) l n) (w.alloc (.cells (mkRow n).toArray 116)) := by
  obtain ⟨i0, hi, hz0, hz1, hz2⟩ := info_parts thk_info
  have := run_make (P := Try.prog) w 113 116 i0 _ Try.underlying113 hi hz0 .i64 .i64 l n (by omega) (by omega) (by rw [hz2]; omega) (by omega)
  rw [this, hz1]
  simp [mkRow]

def ArrP (xs : List Nat) (w : World) (e : Ending) (w' : World) : Prop := ∃ p, e = .returned p ∧ ArrV w' w'.heap.size p xs ∧ Below w.heap.size w w'

set_option maxRecDepth 100000 in
set_option maxHeartbeats 1000000 in
theorem makeArr_any (A : Option Addr) (n c : Nat) (ts : List Value) (xs : List Nat) (w : World) (hn : n = xs.length) (hn1 : n ≤ 1000) (hr : RowV w w.heap.size (.slice A n c) ts) (ht : ThsV w w.heap.size ts xs) :
    Calls Try.prog 72 #[.slice A n c] w (ArrP xs w) := by
  have HR := Lib.hid hr
  have HT := Lib.hid ht
  have HN := Lib.hid hn
  clear hr ht hn
  by_cases hcap : n = c
  · subst hcap
    go_enter Try.func72, Try.ntmps72
    go_wp2
    go_ret
    have hb : Below w.heap.size w (w.alloc (.cells #[.slice A n n] 115)) := (Below.refl _ _).alloc (Nat.le_refl _) _
    refine ⟨_, rfl, ⟨w.heap.size, A, n, ts, rfl, by simp, by rw [← HN.out]; simp [go_sem], ?_, ?_⟩, hb⟩
    · rw [← HN.out]; exact (HR.out.below hb (Nat.le_refl _)).more (by simp)
    · exact (HT.out.below hb (Nat.le_refl _)).more (by simp)
  · have hcap' : decide ((n : Int) = (c : Int)) = false := by simp; omega
    have hmk := fun w => make_run n n (Nat.le_refl _) hn1 w
    have hbA : Below w.heap.size w (w.alloc (.cells (mkRow n).toArray 116)) := (Below.refl _ _).alloc (Nat.le_refl _) _
    have hsrc := RowV.src (HR.out.below hbA (Nat.le_refl _))
    have hone := ths_one HT.out
    have HS := Lib.hid hsrc
    have HB := Lib.hid hbA
    have HO := Lib.hid hone
    clear hsrc hbA hone
    go_enter Try.func72, Try.ntmps72
    go_wp2_with (refine wpList_copy_splice rfl (.tmp 13) (.tmp 14) 113 113 rfl 116 Try.underlying113 (by kernel_rfl) (some ⟨w.heap.size, 0, none⟩) A n n n c rfl rfl w.heap.size 0 (mkRow n) 116 (heap_alloc_new w _) ts (by rw [HS.out.1]; simp) (fun h => ⟨rfl, HS.out.2 (by rw [← HS.out.1]; exact h)⟩) (by rw [mkRow_len, HS.out.1]; omega) HO.out w.heap.size w HB.out (Nat.le_refl _) ?_; intro w2 hg2 hb2)
    have HB2 := Lib.hid hb2
    go_wp2_with fail
    go_ret
    have hb3 : Below w.heap.size w (w2.alloc (.cells #[.slice (some ⟨w.heap.size, 0, none⟩) n n] 115)) := HB2.out.alloc HB2.out.size _
    have hlt : w.heap.size < w2.heap.size := (Array.getElem?_eq_some_iff.1 hg2.out).1
    have hspl : splice (mkRow n) 0 ts = ts := by
      unfold splice
      have : (mkRow n).drop (0 + ts.length) = [] := List.drop_eq_nil_of_le (by rw [mkRow_len, HS.out.1]; omega)
      rw [this]; simp
    have hg3 : (w2.alloc (.cells #[.slice (some ⟨w.heap.size, 0, none⟩) n n] 115)).heap[w.heap.size]? = some (.cells ts.toArray 116 (0, 0)) := by
      have := hg2.out
      rw [hspl] at this
      rw [← this]
      exact ((Below.refl w2.heap.size w2).alloc (Nat.le_refl _) _).block _ hlt
    refine ⟨_, rfl, ⟨w2.heap.size, some ⟨w.heap.size, 0, none⟩, n, ts, rfl, by simp, by rw [← HN.out]; simp [go_sem], ?_, ?_⟩, hb3⟩
    · rw [← HN.out]
      refine ⟨_, n, by rw [HS.out.1], fun _ => ⟨w.heap.size, 0, rfl, by simp; omega, fun j u hu => ?_⟩⟩
      rw [heap_cell hg3]
      simpa using hu
    · exact (HT.out.below hb3 (Nat.le_refl _)).more hb3.size

set_option maxRecDepth 100000 in
set_option maxHeartbeats 1000000 in
theorem nums_any (v : Value) (xs : List Nat) (w : World) (hr : RowV w w.heap.size v (fls xs)) (hn : xs.length ≤ 1000) :
    Calls Try.prog 53 #[v] w (ArrP xs w) := by
  obtain ⟨i0, hi0, hz0, hz1, hz2⟩ := info_parts thk_info
  obtain ⟨A, c, rfl⟩ := hr.form'
  rw [fls_len] at hr ⊢
  have HR := Lib.hid hr
  clear hr
  go_enter Try.func53, Try.ntmps53
  go_wp2
  go_loopw [3, 8] (fun v i wr => ∃ (k : Nat) (ts : List Value), k ≤ xs.length ∧ i = .int .i64 k ∧ wr.ownsRow w.heap.size 116 1 v k ts ∧ ThsV wr wr.heap.size ts (xs.take k) ∧ Below w.heap.size w wr) (fun _ i _ => xs.length - (intOf i).toNat)
  case atStart => exact ⟨0, [], Nat.zero_le _, rfl, World.ownsRow_nil _ _ _ _, ThsV.nil _ _, Below.refl _ _⟩
  case round =>
    obtain ⟨k, ts, hk, rfl, hown, hts, hb⟩ := hrel
    obtain ⟨A3, c3, rfl⟩ := own_form hown
    have HO := Lib.hid hown
    have HT := Lib.hid hts
    clear hown hts
    by_cases hlt : k < xs.length
    · obtain ⟨b, off, rfl, hbB, hcell⟩ := (HR.out.below hb (Nat.le_refl _)).get (fls_at hlt)
      have hlt' : (k : Int) < (xs.length : Int) := by omega
      have hsz := hb.size
      go_wp2_with (first
        | (go_at_call 57; refine (num_any _ _).mono ?_; rintro e w' ⟨rfl, rfl⟩)
        | (go_at_call 71; refine (ready_any _ _ _).mono ?_; rintro e w' ⟨rfl, rfl⟩)
        | (refine wpList_append_rowV _ rfl (.tmp 12) (.tmp 16) 113 rfl w.heap.size 116 i0 _ 1 8 Try.underlying113 hi0 hz0 hz1 hz2 rfl (by omega) (.slice A3 k c3) k ts rfl (((HO.out.alloc _).alloc _).alloc _) (some ⟨wr.heap.size + 1 + 1, 0, none⟩) 1 1 [.pointer (some ⟨wr.heap.size + 1, 0, none⟩)] rfl rfl (fun _ => ⟨_, rfl, news_at (by simp)⟩) (by simp [Value.oneCell']) (by unfold maxLen; omega) (by omega) (by simp; omega) ?_; intro A5 c5 w5 hap))
      have hth : ThsV w5 w5.heap.size (ts ++ [.pointer (some ⟨wr.heap.size + 1, 0, none⟩)]) (xs.take (k + 1)) := by
        have hs5 := hap.grown.size
        simp only [World.size_alloc] at hs5
        rw [List.take_succ_eq_append_getElem hlt]
        have h1 := ((((HT.out.alloc (nuO xs[k])).alloc (thO wr.heap.size)).alloc (.cells #[.pointer (some ⟨wr.heap.size + 1, 0, none⟩)] 116)).kept (((HO.out.alloc _).alloc _).alloc _) hap.grown).more (B' := w5.heap.size) (by omega)
        have h2 := (((ThV.mk_new wr xs[k]).alloc (.cells #[.pointer (some ⟨wr.heap.size + 1, 0, none⟩)] 116)).kept (((HO.out.alloc _).alloc _).alloc _) hap.grown).more (B' := w5.heap.size) (by omega)
        exact h1.append (ThsV.one h2)
      have hbe : Below w.heap.size w w5 := (((hb.alloc hsz _).alloc (by simp; omega) _).alloc (by simp; omega) _).grown hap.grown (by simp; omega) (fun g hg => (HO.out.lt g hg).1)
      have HTH := Lib.hid hth
      have HBE := Lib.hid hbe
      have HOWN := Lib.hid hap.own
      clear hth hbe hap
      go_wp2
      go_roundw
      case rel => exact ⟨k + 1, _, by omega, by go_num, HOWN.out, HTH.out, HBE.out⟩
      case measure => simp [intOf]; omega
    · obtain rfl : k = xs.length := by omega
      have hrow := own_rowV HO.out
      have htt := HT.out
      rw [List.take_length] at htt
      have HRW := Lib.hid hrow
      have HTT := Lib.hid htt
      clear hrow htt
      go_wp2_with (go_at_call 72; refine (makeArr_any A3 xs.length c3 ts xs _ rfl hn HRW.out HTT.out).mono ?_; rintro e w' ⟨p, rfl, hp, hb2⟩)
      go_ret
      exact ⟨p, rfl, hp, hb.trans (hb2.mono hb.size)⟩
end Go.Proofs.Ytenibebomafdmaa
