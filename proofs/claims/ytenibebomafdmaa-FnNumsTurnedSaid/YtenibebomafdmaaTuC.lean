/- The package's arrays of numbers: concatArrays, builtinReverse, numsOf. -/
import Derived.Test.YtenibebomafdmaaTuB
namespace Go.Proofs.Ytenibebomafdmaa
open Go.RowKit

set_option maxRecDepth 100000 in
set_option maxHeartbeats 1000000 in
theorem concat_any (p q : Value) (xs ys : List Nat) (w : World) (hp : ArrV w w.heap.size p xs) (hq : ArrV w w.heap.size q ys) (hx : xs.length ≤ 500) (hy : ys.length ≤ 500) :
    Calls Try.prog 52 #[p, q] w (ArrP (xs ++ ys) w) := by
  obtain ⟨i0, hi0, hz0, hz1, hz2⟩ := info_parts thk_info
  obtain ⟨g1, A1, c1, ts, rfl, hg1, hc1, hr1, ht1⟩ := hp
  obtain ⟨g2, A2, c2, us, rfl, hg2, hc2, hr2, ht2⟩ := hq
  have hmk : ∀ w, (Instr.makeSlice 113 (.int .i64 0) (.int .i64 (IntKind.i64.wrap ((xs.length : Int) + (ys.length : Int))))).run Try.prog w = .ok (.slice (some ⟨w.heap.size, 0, none⟩) 0 (xs.length + ys.length)) (w.alloc (.cells (mkRow (xs.length + ys.length)).toArray 116)) := fun w => by
    have e : IntKind.i64.wrap ((xs.length : Int) + (ys.length : Int)) = ((xs.length + ys.length : Nat) : Int) := by rw [IntKind.wrap_i64]; omega
    rw [e]
    exact make_run 0 (xs.length + ys.length) (by omega) (by omega) w
  have HR1 := Lib.hid hr1
  have HR2 := Lib.hid hr2
  have HT1 := Lib.hid ht1
  have HT2 := Lib.hid ht2
  clear hr1 hr2 ht1 ht2
  go_enter Try.func52, Try.ntmps52
  go_wp2
  go_region_held (fun w' => w'.cell? ⟨g1, 0, none⟩ = some (.slice A1 xs.length c1) ∧ w'.cell? ⟨g2, 0, none⟩ = some (.slice A2 ys.length c2)) (go_keep) (fail)
  have hbX : Below w.heap.size w (w.drew.alloc (.cells (mkRow (xs.length + ys.length)).toArray 116)) := (Below.drew (Below.refl _ _)).alloc (Nat.le_refl _) _
  have hoX : (w.drew.alloc (.cells (mkRow (xs.length + ys.length)).toArray 116)).ownsRow w.heap.size 116 1 (.slice (some ⟨w.heap.size, 0, none⟩) 0 (xs.length + ys.length)) 0 [] :=
    World.ownsRow_made (w.drew) (mkRow (xs.length + ys.length)).toArray (xs.length + ys.length) (Nat.le_refl _) (by unfold maxLen; omega) (by have := mkRow_len (xs.length + ys.length); simp [this])
  have HBX := Lib.hid hbX
  have HOX := Lib.hid hoX
  have HS1 := Lib.hid (RowV.src (HR1.out.below hbX (Nat.le_refl _)))
  have HN1 := Lib.hid (ths_one HT1.out)
  have HN2 := Lib.hid (ths_one HT2.out)
  clear hbX hoX hmk
  have tok1 : True := trivial
  go_wp2_with (first
    | (have _t := tok1; refine wpList_append_rowV _ rfl (.tmp 18) (.tmp 22) 113 rfl w.heap.size 116 i0 _ 1 8 Try.underlying113 hi0 hz0 hz1 hz2 rfl (by omega) (.slice (some ⟨w.heap.size, 0, none⟩) 0 (xs.length + ys.length)) 0 [] rfl (by exact HOX.out) A1 xs.length c1 ts rfl (by rw [HS1.out.1]; omega) (by exact HS1.out.2) HN1.out (by unfold maxLen; omega) (by omega) (by simp) ?_; intro A5 c5 w5 hap; clear tok1 _t; have hb5 : Below w.heap.size w w5 := HBX.out.grown hap.grown (by simp) (fun g hg => by simp [Value.ownBlock] at hg; omega); have hc5 := (hb5.cell (p := ⟨g2, 0, none⟩) hg2).trans hc2; have how5 := hap.own; simp only [Nat.zero_add, List.nil_append] at how5; have HB5 := Lib.hid hb5; have HO5 := Lib.hid how5; have HS5 := Lib.hid (RowV.src (HR2.out.below hb5 (Nat.le_refl _))); clear hb5 how5 hap; have tok2 : True := trivial)
    | (have _t := tok2; refine wpList_append_rowV _ rfl (.tmp 24) (.tmp 28) 113 rfl w.heap.size 116 i0 _ 1 8 Try.underlying113 hi0 hz0 hz1 hz2 rfl (by omega) (.slice A5 xs.length c5) xs.length ts rfl HO5.out A2 ys.length c2 us rfl (by rw [HS5.out.1]; omega) HS5.out.2 HN2.out (by unfold maxLen; omega) (by omega) HB5.out.size ?_; intro A6 c6 w6 hap; clear tok2 _t; have hb6 : Below w.heap.size w w6 := HB5.out.grown hap.grown HB5.out.size (fun g hg => (HO5.out.lt g hg).1); have HB6 := Lib.hid hb6; have HO6 := Lib.hid hap.own; clear hb6 hap))
  go_ret
  have hb7 : Below w.heap.size w (w6.alloc (.cells #[.slice A6 (xs.length + ys.length) c6] 115)) := HB6.out.alloc HB6.out.size _
  refine ⟨_, rfl, ⟨w6.heap.size, A6, c6, ts ++ us, rfl, by simp, by simp [go_sem], ?_, ?_⟩, hb7⟩
  · have h := own_rowV HO6.out
    rw [List.length_append]
    exact (h.below ((Below.refl _ _).alloc (Nat.le_refl _) _) (Nat.le_refl _)).more (by simp)
  · exact ((HT1.out.append HT2.out).below hb7 (Nat.le_refl _)).more hb7.size

theorem assert_arr_ok (v : Value) (w : World) : (Instr.typeAssert (.iface 71 v) 75 71 true).run Try.prog w = .ok (.tuple #[v, .bool true]) w := by kernel_rfl
theorem assert_arr (v : Value) (w : World) : (Instr.typeAssert (.iface 71 v) 75 71 false).run Try.prog w = .ok v w := by kernel_rfl
theorem getArr_any (i : Value) (p : Value) (w : World) :
    Calls Try.prog 73 #[i, .iface 71 p] w fun e w' => e = .returned (.tuple #[p, .nilIface]) ∧ w = w' := by
  have h1 := assert_arr_ok p
  have h2 := assert_arr p
  go_enter Try.func73, Try.ntmps73
  go_wp2
  go_ret2
  exact ⟨rfl, rfl⟩

/-- The row of the reversed array behind k rounds. -/
def revRow (ts : List Value) (k : Nat) : List Value := ts.reverse.take k ++ (mkRow ts.length).drop k
theorem revRow_len (ts : List Value) (k : Nat) (h : k ≤ ts.length) : (revRow ts k).length = ts.length := by simp [revRow, mkRow_len]; omega
theorem revRow_zero (ts : List Value) : revRow ts 0 = mkRow ts.length := by simp [revRow]
theorem revRow_full (ts : List Value) : revRow ts ts.length = ts.reverse := by
  unfold revRow
  rw [List.drop_eq_nil_of_le (by rw [mkRow_len]; omega), List.take_of_length_le (by simp)]
  simp
theorem revRow_set (ts : List Value) (k j : Nat) (h : ts.length = k + 1 + j) : (revRow ts k).set k (ts[j]'(by omega)) = revRow ts (k + 1) := by
  have hk : k < ts.reverse.length := by simp; omega
  have e : ts.reverse[k]'hk = ts[j]'(by omega) := by
    rw [List.getElem_reverse]
    congr 1
    omega
  unfold revRow
  rw [List.take_succ_eq_append_getElem hk, e]
  have hl : (ts.reverse.take k).length = k := by simp; omega
  rw [List.set_append_right _ _ (by omega), hl, Nat.sub_self, List.append_assoc]
  congr 1
  rw [List.drop_eq_getElem_cons (i := k) (by rw [mkRow_len]; omega)]
  rfl

set_option maxRecDepth 100000 in
set_option maxHeartbeats 1000000 in
theorem reverse_any (i : Value) (p : Value) (xs : List Nat) (w : World) (hp : ArrV w w.heap.size p xs) (hx : xs.length ≤ 1000) :
    Calls Try.prog 54 #[i, .iface 71 p] w fun e w' => ∃ q, e = .returned (.tuple #[.iface 71 q, .nilIface]) ∧ ArrV w' w'.heap.size q xs.reverse ∧ Below w.heap.size w w' := by
  obtain ⟨g1, A1, c1, ts, rfl, hg1, hc1, hr1, ht1⟩ := hp
  have hmk := fun w => make_run xs.length xs.length (Nat.le_refl _) hx w
  have hlen := ht1.1
  have HR1 := Lib.hid hr1
  have HT1 := Lib.hid ht1
  have HL := Lib.hid hlen
  clear hr1 ht1 hlen
  go_enter Try.func54, Try.ntmps54
  go_wp2_with (go_at_call 73; refine (getArr_any _ _ _).mono ?_; rintro e w' ⟨rfl, rfl⟩)
  go_loopw [10] (fun i wr => ∃ (k : Nat), k ≤ xs.length ∧ i = .int .i64 k ∧ Hid (wr.heap[w.heap.size]? = some (.cells (revRow ts k).toArray 116 (0, 0))) ∧ Below w.heap.size w wr) (fun i _ => xs.length - (intOf i).toNat)
  case atStart =>
    refine ⟨0, Nat.zero_le _, rfl, Lib.hid ?_, (Below.refl _ _).alloc (Nat.le_refl _) _⟩
    rw [revRow_zero, HL.out]
    exact heap_alloc_new w _
  case round =>
    obtain ⟨k, hk, rfl, HG, hb⟩ := hrel
    by_cases hlt : k < xs.length
    · have hjt : xs.length - (k + 1) < ts.length := by rw [HL.out]; omega
      have hlt' : (k : Int) < (xs.length : Int) := by omega
      have hc2 := (hb.cell (p := ⟨g1, 0, none⟩) hg1).trans hc1
      obtain ⟨b, off, rfl, hbB, hcell⟩ := (HR1.out.below hb (Nat.le_refl _)).get (List.getElem?_eq_getElem hjt)
      have hck : wr.cell? ⟨w.heap.size, k, none⟩ = some ((revRow ts k)[k]'(by rw [revRow_len _ _ (by rw [HL.out]; omega), HL.out]; exact hlt)) := by
        rw [heap_cell HG.out]; simp
      have hfr := heap_free HG.out k
      have hnew : Hid ((wr.setCell ⟨w.heap.size, k, none⟩ (ts[xs.length - (k + 1)]'hjt)).heap[w.heap.size]? = some (.cells (revRow ts (k + 1)).toArray 116 (0, 0))) := by
        have := heap_set HG.out k (ts[xs.length - (k + 1)]'hjt)
        rw [revRow_set ts k (xs.length - (k + 1)) (by rw [HL.out]; omega)] at this
        exact Lib.hid this
      generalize (revRow ts k)[k]'(by rw [revRow_len _ _ (by rw [HL.out]; omega), HL.out]; exact hlt) = old at hck
      obtain ⟨gt, htv⟩ : ∃ gt, ts[xs.length - (k + 1)]'hjt = .pointer (some ⟨gt, 0, none⟩) := by
        obtain ⟨gt, _, h, _⟩ := HT1.out.get (k := xs.length - (k + 1)) (by omega)
        rw [List.getElem?_eq_getElem hjt] at h
        exact ⟨gt, Option.some.inj h⟩
      rw [htv] at hnew hcell
      clear htv
      go_wp2_with fail
      go_roundw
      case rel => exact ⟨k + 1, by omega, by go_num, hnew, hb.setCell (Nat.le_refl _) _⟩
      case measure => simp [intOf]; omega
    · obtain rfl : k = xs.length := by omega
      have hg := HG.out
      rw [← HL.out, revRow_full] at hg
      have hlt := (Array.getElem?_eq_some_iff.1 hg).1
      have hrow : RowV wr wr.heap.size (.slice (some ⟨w.heap.size, 0, none⟩) xs.length xs.length) ts.reverse :=
        ⟨_, xs.length, by rw [List.length_reverse, HL.out], fun _ => ⟨w.heap.size, 0, rfl, hlt, fun j u hu => by rw [heap_cell hg]; simpa using hu⟩⟩
      have htt := ((HT1.out.below hb (Nat.le_refl _)).more hb.size).reverse
      have HRW := Lib.hid hrow
      have HTT := Lib.hid htt
      clear hrow htt hg hlt
      go_wp2_with (go_at_call 72; refine (makeArr_any _ xs.length _ ts.reverse xs.reverse _ (by simp) hx HRW.out HTT.out).mono ?_; rintro e w' ⟨p, rfl, hp, hb2⟩)
      go_ret2
      exact ⟨p, rfl, hp, hb.trans (hb2.mono hb.size)⟩
end Go.Proofs.Ytenibebomafdmaa
