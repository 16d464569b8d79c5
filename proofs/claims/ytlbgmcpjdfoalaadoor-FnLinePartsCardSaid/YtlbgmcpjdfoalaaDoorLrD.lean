/- ast.BuildSource walked. -/
import Derived.Test.YtlbgmcpjdfoalaaDoorLrC
namespace Go.Proofs.YtlbgmcpjdfoalaaDoor
open Go.RowKit Rune

theorem str_info : (Tryd.prog.info? 9).map (fun i => (i.zero, i.size, i.bytes)) = some (some (.string ⟨#[]⟩), 1, 16) := by kernel_rfl
theorem heap_after {w : World} {g : Nat} {x : Obj} (h : w.heap[g]? = some x) (o : Obj) : (w.alloc o).heap[g]? = some x :=
  (((Below.refl w.heap.size w).alloc (Nat.le_refl _) o).block _ (Array.getElem?_eq_some_iff.1 h).1).trans h
def rowsV (acc : List (List UInt8)) : List Value := strs (acc.map ba)
theorem rowsV_len (acc : List (List UInt8)) : (rowsV acc).length = acc.length := by simp [rowsV, strs]
theorem rowsV_snoc (acc : List (List UInt8)) (l : List UInt8) : rowsV (acc ++ [l]) = rowsV acc ++ [.string (ba l)] := by simp [rowsV, strs]

theorem no_ten {r : Nat} (hr : okR r) (h : ¬ r = 10) : (10 : UInt8) ∉ encB r := by
  rcases Nat.lt_or_ge r 128 with h2 | h2
  · rw [enc1 h2]
    intro hm
    simp only [List.mem_cons, List.not_mem_nil, or_false] at hm
    have := congrArg UInt8.toNat hm
    rw [ofN (by omega)] at this
    exact h this.symm
  · exact high_no10 hr h2
def BuildP (s fn : ByteArray) (w : World) (e : Ending) (w' : World) : Prop := ∃ g v, e = .returned (.pointer (some ⟨g, 0, none⟩)) ∧ w'.heap[g]? = some (.cells #[.string fn, v] 40) ∧ RowV w' w'.heap.size v (rowsV (rowsOf [] s.data.toList)) ∧ Below w.heap.size w w'

set_option maxHeartbeats 6400000 in
set_option maxRecDepth 1000000 in
theorem build_any (s fn : ByteArray) (l0 : List Nat) (h0 : Rem s 0 l0) (hs : s.size ≤ 4000) (w : World) : Calls Tryd.prog 14 #[.string fn, .string s] w (BuildP s fn w) := by
  obtain ⟨j0, hj0, jz0, jz1, jz2⟩ := info_parts str_info
  have H0 := Lib.hid h0
  clear h0
  go_enter Tryd.func14, Tryd.ntmps14
  go_wp2
  go_loopw [5] (fun v wr => ∃ (pos : Nat) (acc : List (List UInt8)) (cur : List UInt8) (l : List Nat), Hid (Rem s pos l) ∧ Hid (Lib.IsBuffer 60 5 w.heap.size w.heap.size (Lib.byteCells cur) wr) ∧ Hid (wr.heap[w.heap.size + 1]? = some (.stringIter s pos)) ∧ Below w.heap.size w wr ∧
    Hid (acc ++ rowsOf cur (s.data.toList.drop pos) = rowsOf [] s.data.toList) ∧ cur.length ≤ pos ∧ acc.length ≤ pos ∧ Hid (wr.ownsRow (w.heap.size + 2) 9 1 v acc.length (rowsV acc))) (fun _ wr => s.size - wr.iterPos (w.heap.size + 1))
  case atStart =>
    refine ⟨0, [], [], l0, H0, Lib.hid ((Lib.fresh_isBuffer 60 5 w).alloc _), Lib.hid ?_, ((Below.refl _ w).alloc (Nat.le_refl _) _).alloc (by simp) _, Lib.hid rfl, by simp, by simp, Lib.hid (World.ownsRow_nil _ _ _ _)⟩
    have := World.iter_heap (w.alloc (.cells #[.slice none 0 0, .int .i64 0, .int .i8 0] 60)) s 0
    simpa using this
  case round =>
    obtain ⟨pos, acc, cur, l, HR, HI, HIT, hbw, HA, hcl, hal, HO⟩ := hrel
    obtain ⟨A5, c5, rfl⟩ := own_form HO.out
    have hit := HIT.out
    have hsz : w.heap.size + 1 < wr.heap.size := (Array.getElem?_eq_some_iff.1 hit).1
    have hpz := HR.out.1
    cases l with
    | cons r l =>
      obtain ⟨hpt, hrem, hp⟩ := HR.out.head
      have hok : okR r := hpt.1
      have hdec : Utf8.decode s pos = (r, (encB r).length) := decode_at hpt.1 hpt.2.2
      have hnx := fun ty => Lib.run_next_any_at (P := Tryd.prog) wr (w.heap.size + 1) s pos ty hit hp
      simp only [hdec] at hnx
      have hr32 : (r : Int) ≤ 2147483647 := by unfold okR at hok; omega
      have hr0 : (0 : Int) ≤ (r : Int) := by omega
      have hlen := encB_pos hok
      have hdrop : s.data.toList.drop pos = encB r ++ s.data.toList.drop (pos + (encB r).length) := by
        have h1 := HR.out.2.2
        rw [enc_cons] at h1
        rw [h1, ← hrem.2.2]
      have HREM := Lib.hid hrem
      have HDR := Lib.hid hdrop
      have HOK := Lib.hid hok
      have hpz2 := hrem.1
      have hI2 := HI.out.iterAt hit (pos + (encB r).length)
      have hit2 := Lib.iterAt_heap wr (w.heap.size + 1) s pos (pos + (encB r).length) hit
      have hbw2 := Lib.below_iterAt hbw (k := w.heap.size + 1) (by omega) s (pos + (encB r).length)
      have hO2 := ownsRow_iterAt HO.out (k := w.heap.size + 1) (by omega) s (pos + (encB r).length)
      have hmeas : wr.iterPos (w.heap.size + 1) = pos := by simp [World.iterPos, hit]
      rw [hmeas]
      clear hpt hrem hdec hdrop hok hit hbw hmeas
      generalize wr.iterAt (w.heap.size + 1) s (pos + (encB r).length) = W0 at hnx hI2 hit2 hbw2 hO2
      have hsz0 := hbw2.size
      have hl4 := Lib.runeCells_le (r : Int)
      have HI2 := Lib.hid hI2
      have HIT2 := Lib.hid hit2
      have HO2 := Lib.hid hO2
      have HB2 := Lib.hid hbw2
      clear hI2 hit2 hO2 hbw2
      by_cases h10 : r = 10
      · subst h10
        go_wp2_with (go_at_call 24; refine (Tryd.Buffer_WriteRune_k w.heap.size w.heap.size _ _ (by omega) (by omega) _ HI2.out hsz0 (Lib.byteCells_one _) (by rw [Lib.byteCells_length]; omega)).mono ?_; rintro e W1 ⟨rfl, h1, b1, k1⟩; refine Hid.out ?_)
        refine Lib.hid ?_
        have hI3 : Lib.IsBuffer 60 5 w.heap.size w.heap.size (Lib.byteCells (cur ++ [10])) W1 := by rw [Lib.byteCells_append, byteCells_ten]; exact h1
        have HI3 := Lib.hid hI3
        have HIT3 := Lib.hid (k1.iter HIT2.out (by omega))
        have HO3 := Lib.hid (own_kept HO2.out k1 (by omega) (by decide))
        have HB3 := Lib.hid (HB2.out.trans b1)
        clear h1 b1 k1 hI3
        go_wp2_with (go_at_call 25; refine (string_any w.heap.size w.heap.size (cur ++ [10]) _ HI3.out).mono ?_; rintro e W2 ⟨rfl, hq⟩; refine Hid.out ?_)
        refine Lib.hid ?_
        have HI4 := Lib.hid (hq.buffer HI3.out)
        have HIT4 := Lib.hid (show W2.heap[w.heap.size + 1]? = some (.stringIter s (pos + (encB 10).length)) by rw [hq.heap]; exact HIT3.out)
        have HO4 := Lib.hid (hq.own HO3.out)
        have HB4 := Lib.hid (HB3.out.trans hq.below)
        clear hq HI3 HIT3 HO3 HB3
        have hs2 := HB4.out.size
        have hs3 : w.heap.size + 1 < W2.heap.size := (Array.getElem?_eq_some_iff.1 HIT4.out).1
        go_wp2_with (refine wpList_append_rowV _ rfl (.tmp 19) (.tmp 21) 22 rfl (w.heap.size + 2) 9 j0 _ 1 16 Tryd.underlying22 hj0 jz0 jz1 jz2 rfl (by omega) (.slice A5 acc.length c5) acc.length (rowsV acc) rfl (HO4.out.alloc _) (some ⟨W2.heap.size, 0, none⟩) 1 1 [.string (ba (cur ++ [10]))] rfl rfl (fun _ => ⟨_, rfl, news_at rfl⟩) (by simp [Value.oneCell']) (by unfold maxLen; omega) (by omega) (by simp; omega) ?_; intro A6 c6 W6 hap; refine Hid.out ?_)
        refine Lib.hid ?_
        have hg := hap.grown
        have hsz6 := hap.grown.size
        simp only [World.size_alloc] at hsz6
        have hne : ∀ k, k < w.heap.size + 2 → some k ≠ (Value.slice A5 acc.length c5).ownBlock := fun k hk e1 => by
          have := (HO4.out.lt k e1.symm).1
          omega
        have HI6 := Lib.hid (buffer_kept (HI4.out.alloc _) hg (hne _ (by omega)) (fun v hv => own_apart hv (HO4.out.alloc _) (by decide)))
        have HIT6 := Lib.hid (show W6.heap[w.heap.size + 1]? = some (.stringIter s (pos + (encB 10).length)) from (hg.block _ (by simp; omega) (hne _ (by omega))).trans (heap_after HIT4.out _))
        have HO6 := Lib.hid (show W6.ownsRow (w.heap.size + 2) 9 1 (.slice A6 (acc.length + 1) c6) (acc ++ [cur ++ [10]]).length (rowsV (acc ++ [cur ++ [10]])) by rw [rowsV_snoc, List.length_append]; exact hap.own)
        have HB6 := Lib.hid (show Below w.heap.size w W6 from (HB4.out.alloc hs2 _).grown hg (by simp; omega) (fun g hgk => by have := (HO4.out.lt g hgk).1; omega))
        clear hap hg hne HI4 HIT4 HO4 HB4
        go_wp2_with (go_at_call 26; refine (Tryd.Buffer_Reset_k w.heap.size w.heap.size _ _ HI6.out).mono ?_; rintro e W7 ⟨rfl, h7, b7, k7⟩; refine Hid.out ?_)
        refine Lib.hid ?_
        have HI7 := Lib.hid (show Lib.IsBuffer 60 5 w.heap.size w.heap.size (Lib.byteCells []) W7 from h7)
        have HIT7 := Lib.hid (k7.iter HIT6.out (by omega))
        have HO7 := Lib.hid (own_kept HO6.out k7 (by omega) (by decide))
        have HB7 := Lib.hid (HB6.out.trans b7)
        have HA7 := Lib.hid (show (acc ++ [cur ++ [10]]) ++ rowsOf [] (s.data.toList.drop (pos + (encB 10).length)) = rowsOf [] s.data.toList by
          rw [← HA.out, HDR.out, enc1 (by omega)]
          exact (by rw [List.append_assoc]; exact congrArg (acc ++ ·) (rowsOf_10 _ _).symm))
        clear h7 b7 k7 HI6 HIT6 HO6 HB6
        go_wp2_with fail
        go_roundw
        case rel => exact ⟨_, _, [], l, HREM, HI7, HIT7, HB7.out, HA7, by simp, by simp; omega, HO7⟩
        case measure =>
          simp only [World.iterPos, HIT7.out]
          omega
      · have h10' : ¬ (r : Int) = 10 := by omega
        go_wp2_with (go_at_call 24; refine (Tryd.Buffer_WriteRune_k w.heap.size w.heap.size _ _ (by omega) (by omega) _ HI2.out hsz0 (Lib.byteCells_one _) (by rw [Lib.byteCells_length]; omega)).mono ?_; rintro e W1 ⟨rfl, h1, b1, k1⟩; refine Hid.out ?_)
        refine Lib.hid ?_
        have HI3 := Lib.hid (show Lib.IsBuffer 60 5 w.heap.size w.heap.size (Lib.byteCells (cur ++ encB r)) W1 by rw [Lib.byteCells_append, ← rune_cells HOK.out]; exact h1)
        have HIT3 := Lib.hid (k1.iter HIT2.out (by omega))
        have HO3 := Lib.hid (own_kept HO2.out k1 (by omega) (by decide))
        have HB3 := Lib.hid (HB2.out.trans b1)
        have HA3 := Lib.hid (show acc ++ rowsOf (cur ++ encB r) (s.data.toList.drop (pos + (encB r).length)) = rowsOf [] s.data.toList by rw [← HA.out, HDR.out, rowsOf_no10 _ _ _ (no_ten HOK.out h10)])
        clear h1 b1 k1 hr32 hr0 hl4
        have h10q : ((r : Int) == 10) = false := by simp; omega
        clear h10'
        go_wp2_with fail
        go_roundw
        case rel => exact ⟨_, acc, _, l, HREM, HI3, HIT3, HB3.out, HA3, by simp; omega, by omega, HO3⟩
        case measure =>
          simp only [World.iterPos, HIT3.out]
          omega
    | nil =>
      obtain rfl : pos = s.size := HR.out.nil_end
      have hnx := fun ty => Lib.run_next_end_at (P := Tryd.prog) wr (w.heap.size + 1) s s.size ty hit (by omega)
      have HB := Lib.hid hbw
      have hls := HI.out.lt
      clear hit hbw
      go_wp2_with (go_at_call 25; refine (string_any w.heap.size w.heap.size cur _ HI.out).mono ?_; rintro e W2 ⟨rfl, hq⟩; refine Hid.out ?_)
      refine Lib.hid ?_
      have HO4 := Lib.hid (hq.own HO.out)
      have HB4 := Lib.hid (HB.out.trans hq.below)
      have hz : (ba cur).size = cur.length := by simp [ba, ByteArray.size]
      have hs2 := HB4.out.size
      have hs3 : w.heap.size + 1 < W2.heap.size := by rw [hq.heap]; exact hsz
      clear hq
      go_wp2_with (refine wpList_append_rowV _ rfl (.tmp 25) (.tmp 28) 22 rfl (w.heap.size + 2) 9 j0 _ 1 16 Tryd.underlying22 hj0 jz0 jz1 jz2 rfl (by omega) (.slice A5 acc.length c5) acc.length (rowsV acc) rfl (HO4.out.alloc _) (some ⟨W2.heap.size, 0, none⟩) 1 1 [.string (ba cur ++ { data := #[10] })] rfl rfl (fun _ => ⟨_, rfl, news_at rfl⟩) (by simp [Value.oneCell']) (by unfold maxLen; omega) (by omega) (by simp; omega) ?_; intro A6 c6 W6 hap; refine Hid.out ?_)
      refine Lib.hid ?_
      have hg := hap.grown
      have hsz6 := hap.grown.size
      simp only [World.size_alloc] at hsz6
      have HO6 := Lib.hid (show W6.ownsRow (w.heap.size + 2) 9 1 (.slice A6 (acc.length + 1) c6) (acc.length + 1) (rowsV (rowsOf [] s.data.toList)) by
        have e : rowsOf [] s.data.toList = acc ++ [cur ++ [10]] := by
          rw [← HA.out, List.drop_eq_nil_of_le (by rw [size_list]; exact Nat.le_refl _)]
          rfl
        rw [e, rowsV_snoc]
        have e2 : ba (cur ++ [10]) = ba cur ++ { data := #[10] } := by
          apply ByteArray.ext
          rw [ByteArray.data_append]
          simp [ba]
        rw [e2]
        exact hap.own)
      have HB6 := Lib.hid (show Below w.heap.size w W6 from (HB4.out.alloc hs2 _).grown hg (by simp; omega) (fun g hgk => by have := (HO4.out.lt g hgk).1; omega))
      clear hap hg HO4 HB4
      go_wp2_with fail
      go_ret
      refine ⟨_, _, rfl, heap_alloc_new W6 _, ?_, HB6.out.alloc HB6.out.size _⟩
      have hr := own_rowV HO6.out
      have := (hr.below ((Below.refl W6.heap.size W6).alloc (Nat.le_refl _) (.cells #[.string fn, .slice A6 (acc.length + 1) c6] 40)) (Nat.le_refl _)).more (B' := W6.heap.size + 1) (by omega)
      rw [World.size_alloc]
      exact this
end Go.Proofs.YtlbgmcpjdfoalaaDoor
