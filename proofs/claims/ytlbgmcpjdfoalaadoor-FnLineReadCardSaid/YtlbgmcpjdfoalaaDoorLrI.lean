/- The lexer: lexUntilNewline. -/
import Derived.Test.YtlbgmcpjdfoalaaDoorLrH
import Derived.Lib.BufferOld
namespace Go.Proofs.YtlbgmcpjdfoalaaDoor
open Go.RowKit Go.Sort Rune

theorem LexAt.others {w w' : World} {g b : Nat} {s : ByteArray} {pos : Nat} (h : LexAt w g s pos) (k : Lib.OthersKept 5 (some b) w w') (hgb : g ≠ b) : LexAt w' g s pos := by
  obtain ⟨C, h, r⟩ := h
  refine ⟨C, k g _ h (fun e => hgb (by injection e)) (fun c fz e => ?_), r⟩
  injection e with _ e2
  exact absurd e2 (by decide)
theorem buffer_next {w w' : World} {g B b : Nat} {s : ByteArray} {pos : Nat} {bs : List Value} (hI : Lib.IsBuffer 60 5 B b bs w) (hL : LexAt w g s pos) (hg : w.grownBy w' (some g)) (hgb : b ≠ g) : Lib.IsBuffer 60 5 B b bs w' := by
  refine buffer_kept hI hg (fun e => hgb (by injection e)) (fun v hv => ?_)
  rcases hv.2 with ⟨h0, _⟩ | ⟨g', cap, cur, h0, _, hc, _⟩
  · subst h0; exact .inl rfl
  · subst h0
    refine .inr (fun e => ?_)
    have e2 : g' = g := by simpa [Value.ownBlock] using e
    subst e2
    obtain ⟨C, h, _⟩ := hL
    rw [hc] at h
    injection h with h
    injection h with _ h2
    exact absurd h2 (by decide)
theorem new_block (w : World) (g : Nat) (h : g < w.heap.size) (o : Obj) : (w.alloc o).heap[g]? = w.heap[g]? := ((Below.refl w.heap.size w).alloc (Nat.le_refl _) o).block g h
theorem grown_below {w a c : World} {g B : Nat} (h : w.grownBy a (some g)) (hb : Below B a c) (hB : w.heap.size ≤ B) : w.grownBy c (some g) :=
  ⟨hb.os.trans h.os, hb.tape.trans h.tape, hb.output.trans h.output, Nat.le_trans h.size hb.size, fun k hk hne => (hb.block k (by omega)).trans (h.block k hk hne)⟩
theorem len_cells (B b : Nat) (l : List UInt8) (w : World) (h : Lib.IsBuffer 60 5 B b (Lib.byteCells l) w) :
    Calls Tryd.prog 38 #[.pointer (some ⟨b, 0, none⟩)] w fun e w' => e = .returned (.int .i64 l.length) ∧ Draws w w' :=
  (len_any B b _ w h).mono fun _ _ ⟨he, hd⟩ => ⟨by rw [he, Lib.byteCells_length], hd⟩

theorem trim_yes {s : ByteArray} {pos r : Nat} {l : List Nat} (h : Rem s pos (r :: l)) (hb : blkZ (r : Int) = true) : trimB (s.data.toList.take (pos + (encB r).length)) = trimB (s.data.toList.take pos) := by
  have hr : r = 32 ∨ r = 9 ∨ r = 13 := by simp [blkZ] at hb; omega
  rw [h.take, enc1 (by omega)]
  refine trimB_blk _ _ ?_
  rcases hr with rfl | rfl | rfl <;> rfl
theorem trim_no {s : ByteArray} {pos r : Nat} {l : List Nat} (h : Rem s pos (r :: l)) (hb : blkZ (r : Int) = false) : trimB (s.data.toList.take (pos + (encB r).length)) = s.data.toList.take (pos + (encB r).length) := by
  rw [h.take]
  rcases Nat.lt_or_ge r 128 with h1 | h1
  · rw [enc1 h1]
    refine trimB_non _ _ ?_
    rw [← blk_int, ofN (by omega)]
    exact hb
  · exact trimB_high _ h.head.1.1 h1
theorem no10_step {s : ByteArray} {pos r : Nat} {l : List Nat} (h : Rem s pos (r :: l)) (hr : ¬ r = 10) (hn : (10 : UInt8) ∉ s.data.toList.take pos) : (10 : UInt8) ∉ s.data.toList.take (pos + (encB r).length) := by
  rw [h.take]
  intro hm
  rcases List.mem_append.1 hm with hm | hm
  · exact hn hm
  · exact no_ten h.head.1.1 hr hm
theorem take_size {s : ByteArray} {p : Nat} (h : p ≤ s.size) : (s.data.toList.take p).length = p := by rw [List.length_take, size_list]; omega
theorem ends_pos {s : ByteArray} {p q : Nat} (h : s.data.toList[p]? = some 10) (hw : WsEnds s p q) : 1 ≤ (ws (seg s p q)).1 := by
  have hpq : p < q := by
    rcases Nat.lt_or_ge p q with h1 | h1
    · exact h1
    · exfalso
      have : p = q := by have := hw.1; omega
      subst this
      have := hw.2.2.2 _ h
      exact absurd this (by decide)
  refine ws_pos _ ?_
  unfold seg
  rw [List.getElem?_take_of_lt (by omega), List.getElem?_drop, Nat.add_zero, h]

theorem blk_q {c : Int} (h : blkZ c = true) (w : World) : Calls Tryd.prog 37 #[.int .i32 c] w fun e w' => e = .returned (.bool true) ∧ w = w' := by
  have := horiz_any c w
  rw [h] at this
  exact this
theorem blk_q' {c : Int} (h : blkZ c = false) (w : World) : Calls Tryd.prog 37 #[.int .i32 c] w fun e w' => e = .returned (.bool false) ∧ w = w' := by
  have := horiz_any c w
  rw [h] at this
  exact this
def UntilP (g : Nat) (s : ByteArray) (w : World) (e : Ending) (w' : World) : Prop :=
  ∃ p q, LineEnds s p ∧ WsEnds s p q ∧ e = .returned (.tuple #[.string (ba (trimB (s.data.toList.take p))), .int .i64 (((ws (seg s p q)).1 : Int) - 1), .int .i64 (ws (seg s p q)).2]) ∧ LexAt w' g s q ∧ w.grownBy w' (some g)

set_option maxRecDepth 100000 in
set_option maxHeartbeats 4000000 in
theorem until_any (g : Nat) (s : ByteArray) (l0 : List Nat) (w : World) (hL : LexAt w g s 0) (hR : Rem s 0 l0) (hz : s.size ≤ 2000) (hten : (10 : UInt8) ∈ s.data.toList) (hT : Lib.Utf8Tabs 1 2 w) (hg2 : 2 < g) :
    Calls Tryd.prog 31 #[.pointer (some ⟨g, 0, none⟩)] w (UntilP g s w) := by
  have hgl := hL.lt
  have HR0 := Lib.hid hR
  have HT0 := Lib.hid hT
  have HL0 := Lib.hid (hL.move (new_block w _ hgl (.cells #[.slice none 0 0, .int .i64 0, .int .i8 0] 60)))
  have HG0 := Lib.hid (World.grownBy_alloc w (.cells #[.slice none 0 0, .int .i64 0, .int .i8 0] 60) (some g))
  have HI0 := Lib.hid (Lib.fresh_isBuffer 60 5 w)
  have HTEN := Lib.hid hten
  clear hL hR hT hten
  go_enter Tryd.func31, Tryd.ntmps31
  go_wp2_with (go_at_call 35; refine (peek_any g s 0 l0 _ HL0.out.c2 HL0.out.c10 HR0.out hz (tabs_grown HT0.out HG0.out hg2)).mono ?_; rintro e W1 ⟨rfl, hb⟩; refine Hid.out ?_)
  refine Lib.hid ?_
  have HL1 := Lib.hid (HL0.out.move (hb.block g HL0.out.lt))
  have HG1 := Lib.hid (HG0.out.trans (below_grown hb (some g)))
  have HI1 := Lib.hid (HI0.out.old hb)
  clear hb
  go_wp2_with fail
  go_loopw [6, 7] (fun n r wr => ∃ (pos : Nat) (l : List Nat), r = .int .i32 (headV l) ∧ n = .int .i64 (trimB (s.data.toList.take pos)).length ∧ Hid (Rem s pos l) ∧ Hid (LexAt wr g s pos) ∧ Hid (w.grownBy wr (some g)) ∧
    Hid (Lib.IsBuffer 60 5 w.heap.size w.heap.size (Lib.byteCells (s.data.toList.take pos)) wr) ∧ Hid ((10 : UInt8) ∉ s.data.toList.take pos)) (fun _ _ wr => s.size - (match wr.cell? ⟨g, 10, none⟩ with | some (.int _ n) => n.toNat | _ => 0))
  case atStart => exact ⟨0, l0, rfl, rfl, HR0, HL1, HG1, HI1, Lib.hid (by simp)⟩
  case round =>
    obtain ⟨pos, l, rfl, rfl, HR, HL, HG, HI, HN⟩ := hrel
    have HT := Lib.hid (tabs_grown HT0.out HG.out hg2)
    have hmeas : (match wr.cell? ⟨g, 10, none⟩ with | some (.int _ n) => n.toNat | _ => 0) = pos := by rw [HL.out.c10]; simp
    rw [hmeas]
    clear hmeas
    have hps := HR.out.1
    have hsw := HG.out.size
    cases l with
    | nil =>
      exfalso
      obtain rfl : pos = s.size := HR.out.nil_end
      have := HN.out
      rw [List.take_of_length_le (by rw [size_list]; exact Nat.le_refl _)] at this
      exact this HTEN.out
    | cons r l =>
      by_cases h10 : r = 10
      · subst h10
        obtain ⟨_, hb1, _⟩ := one_byte HR.out (by omega)
        have HE := Lib.hid (show LineEnds s pos from ⟨hps, HN.out, fun _ => hb1⟩)
        have HB1 := Lib.hid hb1
        have htl := trimB_len (s.data.toList.take pos)
        rw [take_size hps] at htl
        clear hb1
        go_wp2_with (go_at_call 39; refine (trunc_any w.heap.size w.heap.size _ _ _ HI.out (by rw [take_size hps]; exact htl) (by rw [take_size hps]; omega) hsw).mono ?_; rintro e W2 ⟨rfl, h1, h2, h3⟩; refine Hid.out ?_)
        refine Lib.hid ?_
        rw [trimB_take] at h1
        have HI2 := Lib.hid h1
        have HL2 := Lib.hid (HL.out.others h3 (by omega))
        have HG2 := Lib.hid (grown_below HG.out h2 (Nat.le_refl _))
        clear h1 h2 h3
        go_wp2_with (go_at_call 25; refine (string_any w.heap.size w.heap.size _ _ HI2.out).mono ?_; rintro e W3 ⟨rfl, hd⟩; refine Hid.out ?_)
        refine Lib.hid ?_
        have HL3 := Lib.hid (HL2.out.move (congrArg (·[g]?) hd.heap))
        have HG3 := Lib.hid (HG2.out.trans (below_grown hd.below (some g)))
        clear hd
        go_wp2_with (go_at_call 40; refine (lexws_any g s pos _ _ HL3.out HR.out hz (tabs_grown HT0.out HG3.out hg2) hg2).mono ?_; rintro e W4 ⟨q, l4, rfl, hws, hr4, hl4, hg4⟩; refine Hid.out ?_)
        refine Lib.hid ?_
        have hp1 := ends_pos HB1.out hws
        have hle := ws_le (seg s pos q)
        have hsl := seg_len s pos q
        have hqz := hws.2.1
        have HFIN := Lib.hid (show LexAt W4 g s q ∧ w.grownBy W4 (some g) ∧ WsEnds s pos q from ⟨hl4, HG3.out.trans hg4, hws⟩)
        clear hws hr4 hl4 hg4
        have FIN := Lib.hid (show UntilP g s w (.returned (.tuple #[.string (ba (trimB (s.data.toList.take pos))), .int .i64 (((ws (seg s pos q)).1 : Int) - 1), .int .i64 (ws (seg s pos q)).2])) W4 from ⟨pos, q, HE.out, HFIN.out.2.2, rfl, HFIN.out.1, HFIN.out.2.1⟩)
        generalize (ws (seg s pos q)).1 = a at hp1 hle FIN ⊢
        generalize (ws (seg s pos q)).2 = c at hle FIN ⊢
        go_wp2_with fail
        go_ret3
        exact FIN.out
      · have hlt := HR.out.head.2.2
        have hok := HR.out.head.1.1
        have hlen := encB_pos hok
        have hR1 := HR.out.head.2.1
        have hps1 := hR1.1
        have HR1 := Lib.hid hR1
        have HN1 := Lib.hid (no10_step HR.out h10 HN.out)
        have HY := Lib.hid (fun h => trim_yes HR.out h)
        have HX := Lib.hid (fun h => trim_no HR.out h)
        have h32 : (r : Int) ≤ 1114111 := by unfold okR at hok; omega
        have HC := Lib.hid (rune_cells hok)
        have HK := Lib.hid HR.out.take
        obtain ⟨z, hzr⟩ : ∃ z : Int, (r : Int) = z := ⟨_, rfl⟩
        rw [show headV (r :: l) = z from hzr]
        have hz0 : 0 ≤ z := by omega
        have hz10 : ¬ z = 10 := by omega
        rw [hzr] at h32
        have hzn : z = (r : Int) := hzr.symm
        have HZ := Lib.hid hzr
        have q1 : (z == -1) = false := by rw [beq_eq_false_iff_ne]; omega
        have q2 : (z == 10) = false := by rw [beq_eq_false_iff_ne]; omega
        have q1' : (z != -1) = true := by rw [bne_iff_ne]; omega
        have q2' : (z != 10) = true := by rw [bne_iff_ne]; omega
        have HWR := Lib.hid (fun W (h : Lib.IsBuffer 60 5 w.heap.size w.heap.size (Lib.byteCells (s.data.toList.take pos)) W) (hs : w.heap.size ≤ W.heap.size) => Tryd.Buffer_WriteRune_k w.heap.size w.heap.size _ z (by omega) (by omega) W h hs (Lib.byteCells_one _) (by rw [Lib.byteCells_length, take_size hps]; omega))
        clear hok hR1 h10 h32 hz0 hz10 hzr hzn
        go_wp2_with (go_at_call 36; refine (next_any g s pos r l _ HL.out HR.out hz HT.out).mono ?_; rintro e W2 ⟨rfl, h1, h2⟩; refine Hid.out ?_)
        refine Lib.hid ?_
        have HL2 := Lib.hid h1
        have HG2 := Lib.hid (HG.out.trans h2)
        have HI2 := Lib.hid (buffer_next HI.out HL.out h2 (by omega))
        have hs2 := HG2.out.size
        clear h1 h2
        go_wp2_with (go_at_call 24; refine (HWR.out _ HI2.out hs2).mono ?_; rintro e W3 ⟨rfl, h1, h2, h3⟩; refine Hid.out ?_)
        refine Lib.hid ?_
        have HI3 := Lib.hid (show Lib.IsBuffer 60 5 w.heap.size w.heap.size (Lib.byteCells (s.data.toList.take (pos + (encB r).length))) W3 by rw [HK.out, Lib.byteCells_append, ← HC.out, HZ.out]; exact h1)
        have HL3 := Lib.hid (HL2.out.others h3 (by omega))
        have HG3 := Lib.hid (grown_below HG2.out h2 (Nat.le_refl _))
        clear h1 h2 h3
        have HSZ := Lib.hid (take_size hps1)
        rw [HZ.out] at HY HX
        cases hb : blkZ z with
        | true =>
          have HY1 := Lib.hid (HY.out hb)
          have hbz := blk_q hb
          clear hb
          go_wp2_with (go_at_call 37; refine (hbz _).mono ?_; rintro e w' ⟨rfl, rfl⟩; refine Hid.out ?_)
          refine Lib.hid ?_
          clear hbz
          go_wp2_with (go_at_call 35; refine (peek_any g s (pos + (encB r).length) l _ HL3.out.c2 HL3.out.c10 HR1.out hz (tabs_grown HT0.out HG3.out hg2)).mono ?_; rintro e W4 ⟨rfl, hb4⟩; refine Hid.out ?_)
          refine Lib.hid ?_
          have HL4 := Lib.hid (HL3.out.move (hb4.block g HL3.out.lt))
          have HG4 := Lib.hid (HG3.out.trans (below_grown hb4 (some g)))
          have HI4 := Lib.hid (HI3.out.old hb4)
          clear hb4
          go_wp2_with fail
          go_roundw
          case rel => exact ⟨_, l, rfl, by rw [HY1.out], HR1, HL4, HG4, HI4, HN1⟩
          case measure => rw [HL4.out.c10]; simp; omega
        | false =>
          have HX1 := Lib.hid (HX.out hb)
          have hbz := blk_q' hb
          clear hb
          go_wp2_with (go_at_call 37; refine (hbz _).mono ?_; rintro e w' ⟨rfl, rfl⟩; refine Hid.out ?_)
          refine Lib.hid ?_
          clear hbz
          go_wp2_with (go_at_call 38; refine (len_cells w.heap.size w.heap.size _ _ HI3.out).mono ?_; rintro e W5 ⟨rfl, hd⟩; refine Hid.out ?_)
          refine Lib.hid ?_
          have HL5 := Lib.hid (HL3.out.move (congrArg (·[g]?) hd.heap))
          have HG5 := Lib.hid (HG3.out.trans (below_grown hd.below (some g)))
          have HI5 := Lib.hid (hd.buffer HI3.out)
          clear hd
          go_wp2_with (go_at_call 35; refine (peek_any g s (pos + (encB r).length) l _ HL5.out.c2 HL5.out.c10 HR1.out hz (tabs_grown HT0.out HG5.out hg2)).mono ?_; rintro e W4 ⟨rfl, hb4⟩; refine Hid.out ?_)
          refine Lib.hid ?_
          have HL4 := Lib.hid (HL5.out.move (hb4.block g HL5.out.lt))
          have HG4 := Lib.hid (HG5.out.trans (below_grown hb4 (some g)))
          have HI4 := Lib.hid (HI5.out.old hb4)
          clear hb4
          go_wp2_with fail
          go_roundw
          case rel => exact ⟨_, l, rfl, by rw [HX1.out, HSZ.out]; go_num, HR1, HL4, HG4, HI4, HN1⟩
          case measure => rw [HL4.out.c10]; simp; omega
end Go.Proofs.YtlbgmcpjdfoalaaDoor
