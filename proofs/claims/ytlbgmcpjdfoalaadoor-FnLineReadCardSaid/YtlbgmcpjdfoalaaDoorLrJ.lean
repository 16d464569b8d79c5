/- A line read: makeLexer, ReadLine, impl.LineRead, and the law. -/
import Derived.Test.YtlbgmcpjdfoalaaDoorLrI
namespace Go.Proofs.YtlbgmcpjdfoalaaDoor
open Go.RowKit Go.Sort Rune

def NewP (s : ByteArray) (w : World) (e : Ending) (w' : World) : Prop := ∃ g, e = .returned (.pointer (some ⟨g, 0, none⟩)) ∧ LexAt w' g s 0 ∧ Below w.heap.size w w' ∧ w.heap.size ≤ g
set_option maxRecDepth 100000 in
set_option maxHeartbeats 2000000 in
theorem lexer_any (d i s : ByteArray) (l0 : List Nat) (w : World) (hR : Rem s 0 l0) (hz : s.size ≤ 2000) : Calls Tryd.prog 30 #[.string d, .string i, .string s] w (NewP s w) := by
  have HR := Lib.hid hR
  clear hR
  go_enter Tryd.func30, Tryd.ntmps30
  go_wp2_with (go_at_call 14; refine (build_any s d l0 HR.out (by omega) _).mono ?_; rintro e W1 ⟨g, v, rfl, _, _, hb⟩; refine Hid.out ?_)
  refine Lib.hid ?_
  have HB := Lib.hid hb
  clear hb
  go_wp2_with fail
  go_ret
  exact ⟨W1.heap.size, rfl, ⟨_, heap_alloc_new W1 _, rfl, rfl, rfl, ⟨true, rfl⟩, 1, rfl⟩, HB.out.alloc HB.out.size _, HB.out.size⟩

def ImplP (s : ByteArray) (w : World) (e : Ending) (w' : World) : Prop :=
  ∃ p q, LineEnds s p ∧ WsEnds s p q ∧ e = .returned (.tuple #[.string (ba (trimB (s.data.toList.take p))), .int .i64 (((ws (seg s p q)).1 : Int) - 1), .int .i64 (ws (seg s p q)).2, .int .i64 q]) ∧ Below w.heap.size w w'
theorem tabs_size {w : World} (h : Lib.Utf8Tabs 1 2 w) : 2 < w.heap.size := by
  have := (h.2 0 (by omega)).1
  rcases Nat.lt_or_ge 2 w.heap.size with h' | h'
  · exact h'
  · simp [World.cell?, Array.getElem?_eq_none h'] at this
set_option maxRecDepth 100000 in
set_option maxHeartbeats 2000000 in
theorem read_any (s : ByteArray) (l0 : List Nat) (w : World) (hR : Rem s 0 l0) (hz : s.size ≤ 2000) (hten : (10 : UInt8) ∈ s.data.toList) (hT : Lib.Utf8Tabs 1 2 w) : Calls Tryd.prog 23 #[.string s] w (ImplP s w) := by
  have HR := Lib.hid hR
  have HTEN := Lib.hid hten
  have HT := Lib.hid hT
  have h2 := tabs_size hT
  clear hR hten hT
  go_enter Tryd.func23, Tryd.ntmps23
  go_wp2_with (go_at_call 30; refine (lexer_any _ _ s l0 _ HR.out hz).mono ?_; rintro e W1 ⟨g, rfl, h1, hb, hg⟩; refine Hid.out ?_)
  refine Lib.hid ?_
  have HL1 := Lib.hid h1
  have HB1 := Lib.hid hb
  have HT1 := Lib.hid (Utf8Tabs_below HT.out hb)
  clear h1 hb
  go_wp2_with (go_at_call 31; refine (until_any g s l0 _ HL1.out HR.out hz HTEN.out HT1.out (by omega)).mono ?_; rintro e W2 ⟨p, q, hE, hW, rfl, hL, hG⟩; refine Hid.out ?_)
  refine Lib.hid ?_
  have k10 := hL.c10
  have HE := Lib.hid hE
  have HW := Lib.hid hW
  have HB2 := Lib.hid (show Below w.heap.size w W2 from ⟨hG.os.trans HB1.out.os, hG.tape.trans HB1.out.tape, hG.output.trans HB1.out.output, Nat.le_trans HB1.out.size hG.size, fun k hk => (hG.block k (by have := HB1.out.size; omega) (fun e => by injection e; omega)).trans (HB1.out.block k hk)⟩)
  clear hE hW hL hG
  have FIN := Lib.hid (show ∀ W3, Draws W2 W3 → ImplP s w (.returned (.tuple #[.string (ba (trimB (s.data.toList.take p))), .int .i64 (((ws (seg s p q)).1 : Int) - 1), .int .i64 (ws (seg s p q)).2, .int .i64 q])) W3 from fun W3 hd => ⟨p, q, HE.out, HW.out, rfl, HB2.out.trans hd.below⟩)
  generalize ((ws (seg s p q)).1 : Int) - 1 = a at FIN ⊢
  generalize ((ws (seg s p q)).2 : Int) = c at FIN ⊢
  go_wp2_with fail
  go_quiet (fail)
  rename_i nq
  have HD := Lib.hid (show Draws W2 (W2.drewN nq) from ⟨nq, rfl⟩)
  generalize W2.drewN nq = W3 at HD ⊢
  go_wp2_with fail
  refine bodyPost_ret (v := .tuple #[.string (ba (trimB (s.data.toList.take p))), .int .i64 a, .int .i64 c, .int .i64 q]) (by simp [results, Tryd.results23]) rfl ?_
  exact FIN.out W3 HD.out
set_option maxRecDepth 100000 in
theorem impl_any (s : ByteArray) (l0 : List Nat) (w : World) (hR : Rem s 0 l0) (hz : s.size ≤ 2000) (hten : (10 : UInt8) ∈ s.data.toList) (hT : Lib.Utf8Tabs 1 2 w) : Calls Tryd.prog 12 #[.string s] w (ImplP s w) := by
  have HR := Lib.hid hR
  have HTEN := Lib.hid hten
  have HT := Lib.hid hT
  clear hR hten hT
  go_enter Tryd.func12, Tryd.ntmps12
  go_wp2_with (go_at_call 23; refine (read_any s l0 _ HR.out hz HTEN.out HT.out).mono ?_; rintro e W2 ⟨p, q, hE, hW, rfl, hb⟩; refine Hid.out ?_)
  refine Lib.hid ?_
  have FIN := Lib.hid (show ImplP s w (.returned (.tuple #[.string (ba (trimB (s.data.toList.take p))), .int .i64 (((ws (seg s p q)).1 : Int) - 1), .int .i64 (ws (seg s p q)).2, .int .i64 q])) W2 from ⟨p, q, hE, hW, rfl, hb⟩)
  clear hE hW hb
  generalize ((ws (seg s p q)).1 : Int) - 1 = a at FIN ⊢
  generalize ((ws (seg s p q)).2 : Int) = c at FIN ⊢
  go_wp2_with fail
  refine bodyPost_ret (v := .tuple #[.string (ba (trimB (s.data.toList.take p))), .int .i64 a, .int .i64 c, .int .i64 q]) (by simp [results, Tryd.results12]) rfl ?_
  exact FIN.out

set_option maxRecDepth 100000 in
set_option maxHeartbeats 2000000 in
theorem law_any (s : ByteArray) (w : World) (hs : s.size ≤ 9223372036854775807) (hT : Lib.Utf8Tabs 1 2 w) : Calls Tryd.prog 4 #[.string s] w fun e w' => e = .returned (.bool true) ∧ Below w.heap.size w w' := by
  have HT := Lib.hid hT
  clear hT
  go_enter Tryd.func4, Tryd.ntmps4
  go_wp2_with (go_at_call 9; refine (short_any s hs _).mono ?_; rintro e w' ⟨b, rfl, hb, rfl⟩; refine Hid.out ?_)
  · go_ret; exact ⟨rfl, Below.refl _ _⟩
  · refine Lib.hid ?_
    cases b with
    | false =>
      go_wp2_with fail
      go_ret
      exact ⟨rfl, Below.refl _ _⟩
    | true =>
      obtain ⟨hz, l0, hR⟩ := hb rfl
      have HR := Lib.hid hR
      clear hb hR
      go_wp2_with (go_at_call 10; refine (feeds_any s hz _).mono ?_; rintro e w' ⟨n, rfl, hn, rfl⟩; refine Hid.out ?_)
      refine Lib.hid ?_
      by_cases h0 : n = 0
      · subst h0
        clear hn
        go_wp2_with fail
        go_ret
        exact ⟨rfl, Below.refl _ _⟩
      · have HTEN := Lib.hid (hn h0)
        have h0q : ((n : Int) == 0) = false := by rw [beq_eq_false_iff_ne]; omega
        clear hn h0
        go_wp2_with (go_at_call 11; refine (specLine_any s hz HTEN.out _).mono ?_; rintro e w' ⟨p, q, T, hE, hW, hTe, rfl, rfl⟩; refine Hid.out ?_)
        refine Lib.hid ?_
        have HE := Lib.hid hE
        have HW := Lib.hid hW
        have hTb : T = ba (trimB (s.data.toList.take p)) := by
          apply ByteArray.ext
          apply Array.ext'
          rw [hTe]
          simp [ba]
        subst hTb
        clear hE hW hTe h0q
        go_wp2_with (go_at_call 12; refine (impl_any s l0 _ HR.out hz HTEN.out HT.out).mono ?_; rintro e w2 ⟨p', q', hE', hW', rfl, hb⟩; refine Hid.out ?_)
        refine Lib.hid ?_
        obtain rfl : p = p' := HE.out.uniq hE'
        obtain rfl : q = q' := HW.out.uniq hW'
        have HB := Lib.hid hb
        clear hE' hW' hb
        generalize ((ws (seg s p q)).1 : Int) - 1 = a
        generalize ((ws (seg s p q)).2 : Int) = c
        generalize ba (trimB (s.data.toList.take p)) = T
        go_wp2_with fail
        go_ret
        exact ⟨rfl, HB.out⟩
end Go.Proofs.YtlbgmcpjdfoalaaDoor
