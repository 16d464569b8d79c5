/- Lines of a text: ranges within a line, a snippet of one. -/
import Derived.Test.YtlbgmcpjdfoalaaDoorLrE
import Derived.RegionTactic
import Derived.Lib.BufferOld
import Derived.BigRegion
namespace Go.Proofs.YtlbgmcpjdfoalaaDoor
open Go.RowKit Go.Sort Rune

/-- A source in memory: its lines. -/
def SrcAt (w : World) (g : Nat) (rows : List (List UInt8)) : Prop := ∃ fn v, w.heap[g]? = some (.cells #[fn, v] 40 (0, 0)) ∧ RowV w w.heap.size v (rowsV rows)
theorem SrcAt.below {w w' : World} {g : Nat} {rows : List (List UInt8)} (h : SrcAt w g rows) (hb : Below w.heap.size w w') : SrcAt w' g rows := by
  obtain ⟨fn, v, h1, h2⟩ := h
  exact ⟨fn, v, (hb.block g (Array.getElem?_eq_some_iff.1 h1).1).trans h1, (h2.below hb (Nat.le_refl _)).more hb.size⟩
theorem SrcAt.get {w : World} {g : Nat} {rows : List (List UInt8)} (h : SrcAt w g rows) {k : Nat} (hk : k < rows.length) :
    ∃ b off c, w.cell? ⟨g, 1, none⟩ = some (.slice (some ⟨b, off, none⟩) rows.length c) ∧ w.cell? ⟨b, off + k, none⟩ = some (.string (ba (rows[k]'hk))) ∧ g < w.heap.size ∧ b < w.heap.size := by
  obtain ⟨fn, v, h1, h2⟩ := h
  obtain ⟨A, c, rfl⟩ := h2.form'
  obtain ⟨b, off, rfl, hb, hc⟩ := h2.get (k := k) (u := .string (ba (rows[k]'hk))) (by simp [rowsV, strs, List.getElem?_map, List.getElem?_eq_getElem hk])
  refine ⟨b, off, c, ?_, hc, (Array.getElem?_eq_some_iff.1 h1).1, hb⟩
  rw [heap_cell h1, rowsV_len]
  rfl
def locV (g : Nat) (fn : ByteArray) (l1 c1 l2 c2 : Int) : Value := .agg #[.pointer (some ⟨g, 0, none⟩), .string fn, .int .i64 l1, .int .i64 c1, .int .i64 l2, .int .i64 c2]

set_option maxRecDepth 100000 in
theorem trim_any (g : Nat) (fn : ByteArray) (L c1 c2 : Int) (w : World) : Calls Tryd.prog 27 #[locV g fn L c1 L c2, .int .i64 L] w fun e w' => e = .returned (locV g fn L c1 L c2) ∧ Below w.heap.size w w' := by
  unfold locV
  go_enter Tryd.func27, Tryd.ntmps27
  go_wp2
  refine bodyPost_ret (v := locV g fn L c1 L c2) (by simp [results, Tryd.results27, go_sem, locV]) rfl ⟨rfl, ?_⟩
  exact ((Below.refl _ _).alloc (Nat.le_refl _) _).alloc (by simp) _

def cut (l : List UInt8) (a b : Nat) : List UInt8 := (l.drop a).take (b - a)
theorem cut_self (l : List UInt8) (a : Nat) : cut l a a = [] := by simp [cut]
theorem cut_snoc {l : List UInt8} {a b : Nat} (h : a ≤ b) (hb : b < l.length) : cut l a (b + 1) = cut l a b ++ [l[b]] := by
  unfold cut
  have e : b + 1 - a = (b - a) + 1 := by omega
  rw [e, List.take_add_one, List.getElem?_drop]
  have e2 : a + (b - a) = b := by omega
  rw [e2, List.getElem?_eq_getElem hb]
  rfl

def SnipP (l : List UInt8) (w : World) (e : Ending) (w' : World) : Prop := e = .returned (.string (ba l)) ∧ Below w.heap.size w w'
theorem trim_h (g : Nat) (fn : ByteArray) (L c1 c2 : Int) (w : World) : Calls Tryd.prog 27 #[.agg #[.pointer (some ⟨g, 0, none⟩), .string fn, .int .i64 L, .int .i64 c1, .int .i64 L, .int .i64 c2], .int .i64 L] w fun e w' => e = .returned (.agg #[.pointer (some ⟨g, 0, none⟩), .string fn, .int .i64 L, .int .i64 c1, .int .i64 L, .int .i64 c2]) ∧ Below w.heap.size w w' := trim_any g fn L c1 c2 w
set_option maxRecDepth 100000 in
set_option maxHeartbeats 4000000 in
theorem snip_any (g L c1 c2 : Nat) (sp : Value) (fn : ByteArray) (rows : List (List UInt8)) (w : World) (hS : SrcAt w g rows) (hL : L < rows.length) (hLs : rows.length ≤ 4000) (h1 : 1 ≤ c1) (h2 : c1 ≤ c2) (h3 : c2 ≤ (rows[L]'hL).length + 1) (h4 : (rows[L]'hL).length ≤ 4000) :
    Calls Tryd.prog 18 #[sp, .agg #[.pointer (some ⟨g, 0, none⟩), .string fn, .int .i64 ((L + 1 : Nat) : Int), .int .i64 c1, .int .i64 ((L + 1 : Nat) : Int), .int .i64 c2]] w (SnipP (cut (rows[L]'hL) (c1 - 1) (c2 - 1)) w) := by
  obtain ⟨R, hR⟩ : ∃ R, rows[L] = R := ⟨_, rfl⟩
  have HR := Lib.hid hR
  rw [hR] at h3 h4 ⊢
  clear hR
  have HS := Lib.hid hS
  clear hS
  have hL1 : 1 ≤ ((L + 1 : Nat) : Int) := by omega
  have hL2 : ((L + 1 : Nat) : Int) ≤ 4000 := by omega
  have hL0 : (((L + 1 : Nat) : Int) == 0) = false := by rw [beq_eq_false_iff_ne]; omega
  obtain ⟨Z, hZ⟩ : ∃ Z : Int, ((L + 1 : Nat) : Int) = Z := ⟨_, rfl⟩
  have HZ := Lib.hid hZ
  rw [hZ] at hL0 hL1 hL2 ⊢
  clear hZ
  go_enter Tryd.func18, Tryd.ntmps18
  go_wp2_with fail
  have hz1 : Z - 1 = (L : Int) := by have := HZ.out; omega
  have HX0 := Lib.hid (heap_after (heap_alloc_new w (.cells #[.pointer (some ⟨g, 0, none⟩), .string fn, .int .i64 Z, .int .i64 c1, .int .i64 Z, .int .i64 c2] 44)) (.cells #[.slice none 0 0, .int .i64 0, .int .i8 0] 60))
  have HI0 := Lib.hid (Lib.fresh_isBuffer 60 5 (w.alloc (.cells #[.pointer (some ⟨g, 0, none⟩), .string fn, .int .i64 Z, .int .i64 c1, .int .i64 Z, .int .i64 c2] 44)))
  have HB0 := Lib.hid (show Below w.heap.size w ((w.alloc (.cells #[.pointer (some ⟨g, 0, none⟩), .string fn, .int .i64 Z, .int .i64 c1, .int .i64 Z, .int .i64 c2] 44)).alloc (.cells #[.slice none 0 0, .int .i64 0, .int .i8 0] 60)) from ((Below.refl _ _).alloc (Nat.le_refl _) _).alloc (by simp) _)
  rw [World.size_alloc] at HI0
  generalize (w.alloc (.cells #[.pointer (some ⟨g, 0, none⟩), .string fn, .int .i64 Z, .int .i64 c1, .int .i64 Z, .int .i64 c2] 44)).alloc (.cells #[.slice none 0 0, .int .i64 0, .int .i8 0] 60) = X0 at HX0 HI0 HB0 ⊢
  go_loopw [6] (fun i wr => ∃ k : Nat, k ≤ 1 ∧ i = .int .i64 (Z + k) ∧ Hid (wr.heap[w.heap.size]? = some (.cells #[.pointer (some ⟨g, 0, none⟩), .string fn, .int .i64 Z, .int .i64 c1, .int .i64 Z, .int .i64 c2] 44)) ∧
    Hid (Lib.IsBuffer 60 5 (w.heap.size + 1) (w.heap.size + 1) (Lib.byteCells (if k = 0 then [] else cut R (c1 - 1) (c2 - 1))) wr) ∧ Hid (Below w.heap.size w wr)) (fun i _ => (Z + 1 - intOf i).toNat)
  case atStart => exact ⟨0, by omega, by simp, HX0, HI0, HB0⟩
  case round =>
    obtain ⟨k, hk, rfl, HX, HI, HB⟩ := hrel
    have hsz := HB.out.size
    have hxl := (Array.getElem?_eq_some_iff.1 HX.out).1
    rcases Nat.eq_zero_or_pos k with rfl | hk1
    · have x0 : wr.cell? ⟨w.heap.size, 0, none⟩ = some (.pointer (some ⟨g, 0, none⟩)) := by rw [heap_cell HX.out]; rfl
      have x1 : wr.cell? ⟨w.heap.size, 1, none⟩ = some (.string fn) := by rw [heap_cell HX.out]; rfl
      have x2 : wr.cell? ⟨w.heap.size, 2, none⟩ = some (.int .i64 Z) := by rw [heap_cell HX.out]; rfl
      have x3 : wr.cell? ⟨w.heap.size, 3, none⟩ = some (.int .i64 c1) := by rw [heap_cell HX.out]; rfl
      have x4 : wr.cell? ⟨w.heap.size, 4, none⟩ = some (.int .i64 Z) := by rw [heap_cell HX.out]; rfl
      have x5 : wr.cell? ⟨w.heap.size, 5, none⟩ = some (.int .i64 c2) := by rw [heap_cell HX.out]; rfl
      have hc1 : (c1 : Int) ≤ 4001 := by omega
      go_wp2_with (go_at_call 27; refine (trim_h g fn Z c1 c2 _).mono ?_; rintro e W1 ⟨rfl, hb1⟩; refine Hid.out ?_)
      refine Lib.hid ?_
      have HX1 := Lib.hid ((hb1.block _ hxl).trans HX.out)
      have HI1 := Lib.hid (HI.out.old hb1)
      have HB1 := Lib.hid (HB.out.trans (hb1.mono hsz))
      have hsz1 := HB1.out.size
      clear hb1 x0 x1 x2 x3 x4 x5
      go_wp2_with fail
      have HX2 := Lib.hid (heap_after HX1.out (.cells #[.pointer (some ⟨g, 0, none⟩), .string fn, .int .i64 Z, .int .i64 c1, .int .i64 Z, .int .i64 c2] 44))
      have HY2 := Lib.hid (heap_alloc_new W1 (.cells #[.pointer (some ⟨g, 0, none⟩), .string fn, .int .i64 Z, .int .i64 c1, .int .i64 Z, .int .i64 c2] 44))
      have HI2 := Lib.hid (HI1.out.alloc (.cells #[.pointer (some ⟨g, 0, none⟩), .string fn, .int .i64 Z, .int .i64 c1, .int .i64 Z, .int .i64 c2] 44))
      have HB2 := Lib.hid (HB1.out.alloc hsz1 (.cells #[.pointer (some ⟨g, 0, none⟩), .string fn, .int .i64 Z, .int .i64 c1, .int .i64 Z, .int .i64 c2] 44))
      have hbp : w.heap.size + 1 < W1.heap.size := HI1.out.lt
      clear HX1 HI1 HB1
      generalize W1.alloc (.cells #[.pointer (some ⟨g, 0, none⟩), .string fn, .int .i64 Z, .int .i64 c1, .int .i64 Z, .int .i64 c2] 44) = X2 at HX2 HY2 HI2 HB2 ⊢
      generalize W1.heap.size = p at hbp hsz1 HY2 ⊢
      go_loopw [8] (fun j wr => ∃ m : Nat, c1 - 1 ≤ m ∧ m ≤ c2 - 1 ∧ j = .int .i64 ((m + 1 : Nat) : Int) ∧ Hid (wr.heap[w.heap.size]? = some (.cells #[.pointer (some ⟨g, 0, none⟩), .string fn, .int .i64 Z, .int .i64 c1, .int .i64 Z, .int .i64 c2] 44)) ∧
        Hid (wr.heap[p]? = some (.cells #[.pointer (some ⟨g, 0, none⟩), .string fn, .int .i64 Z, .int .i64 c1, .int .i64 Z, .int .i64 c2] 44)) ∧
        Hid (Lib.IsBuffer 60 5 (w.heap.size + 1) (w.heap.size + 1) (Lib.byteCells (cut R (c1 - 1) m)) wr) ∧ Hid (Below w.heap.size w wr)) (fun j _ => (c2 + 1 - intOf j).toNat)
      case atStart => exact ⟨c1 - 1, Nat.le_refl _, by omega, by rw [show c1 - 1 + 1 = c1 by omega], HX2, HY2, Lib.hid (by rw [cut_self]; exact HI2.out), HB2⟩
      case round =>
        obtain ⟨m, hm1, hm2, rfl, HX3, HY3, HI3, HB3⟩ := hrel
        have y5 : wr.cell? ⟨p, 5, none⟩ = some (.int .i64 c2) := by rw [heap_cell HY3.out]; rfl
        have x4 : wr.cell? ⟨w.heap.size, 4, none⟩ = some (.int .i64 Z) := by rw [heap_cell HX3.out]; rfl
        have hsz3 := HB3.out.size
        by_cases hlt : m + 1 < c2
        · have x0 : wr.cell? ⟨w.heap.size, 0, none⟩ = some (.pointer (some ⟨g, 0, none⟩)) := by rw [heap_cell HX3.out]; rfl
          obtain ⟨b, off, c, hg1, hcell, hgl, hbl⟩ := (HS.out.below HB3.out).get hL
          rw [HR.out] at hcell
          have hlt' : ((m + 1 : Nat) : Int) < (c2 : Int) := by omega
          have hm0 : ((m + 1 : Nat) : Int) - 1 = (m : Int) := by omega
          have hmR : m < R.length := by omega
          have hbaz : (ba R).size = R.length := by simp [ba, ByteArray.size]
          have hlr : (L : Int) < (rows.length : Int) := by omega
          have hL0' : (0 : Int) ≤ (L : Int) := by omega
          go_wp2_with (go_at_call 28; refine (Tryd.Buffer_WriteByte_k (w.heap.size + 1) (w.heap.size + 1) _ _ _ HI3.out (by have := HI3.out.lt; omega) (Lib.byteCells_one _) (by rw [Lib.byteCells_length]; simp [cut]; omega)).mono ?_; rintro e W4 ⟨rfl, h1, h2, h3⟩; refine Hid.out ?_)
          refine Lib.hid ?_
          have HX4 := Lib.hid (h3 _ _ HX3.out (fun e => by injection e; omega) (fun c fz e => by injection e with _ e2; exact absurd e2 (by decide)))
          have HY4 := Lib.hid (h3 _ _ HY3.out (fun e => by injection e; omega) (fun c fz e => by injection e with _ e2; exact absurd e2 (by decide)))
          have HI4 := Lib.hid (show Lib.IsBuffer 60 5 (w.heap.size + 1) (w.heap.size + 1) (Lib.byteCells (cut R (c1 - 1) (m + 1))) W4 by
            rw [cut_snoc hm1 hmR, Lib.byteCells_append]
            exact h1)
          have HB4 := Lib.hid (HB3.out.trans (h2.mono (by omega)))
          clear h1 h2 h3 x0 x4 y5 hg1 hcell
          go_wp2_with fail
          go_roundw
          case rel => exact ⟨m + 1, by omega, by omega, by go_num, HX4, HY4, HI4, HB4⟩
          case measure => simp [intOf]; omega
        · obtain rfl : m = c2 - 1 := by omega
          have hge : ¬ (((c2 - 1 + 1 : Nat) : Int) < (c2 : Int)) := by omega
          go_wp2_with fail
          go_roundw
          case rel => exact ⟨1, by omega, by simp, HX3, HI3, HB3⟩
          case measure => simp [intOf]; omega
    · obtain rfl : k = 1 := by omega
      have x4 : wr.cell? ⟨w.heap.size, 4, none⟩ = some (.int .i64 Z) := by rw [heap_cell HX.out]; rfl
      have hzz : ¬ (Z + 1 ≤ Z) := by omega
      go_wp2_with (go_at_call 25; refine (string_any (w.heap.size + 1) (w.heap.size + 1) _ _ HI.out).mono ?_; rintro e W2 ⟨rfl, hq⟩; refine Hid.out ?_)
      refine Lib.hid ?_
      have HB2 := Lib.hid (HB.out.trans hq.below)
      clear hq
      go_wp2_with fail
      go_ret
      exact ⟨rfl, HB2.out⟩
end Go.Proofs.YtlbgmcpjdfoalaaDoor
