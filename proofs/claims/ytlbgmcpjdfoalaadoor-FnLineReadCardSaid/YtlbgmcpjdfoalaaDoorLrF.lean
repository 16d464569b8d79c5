/- The lexer: next. -/
import Derived.Test.YtlbgmcpjdfoalaaDoorLrE
namespace Go.Proofs.YtlbgmcpjdfoalaaDoor
open Go.RowKit Go.Sort Rune

/-- A lexer over a text at a place. -/
def LexAt (w : World) (g : Nat) (s : ByteArray) (pos : Nat) : Prop :=
  ∃ C : Array Value, w.heap[g]? = some (.cells C 80 (0, 0)) ∧ C.size = 13 ∧ C[2]? = some (.string s) ∧ C[10]? = some (.int .i64 pos) ∧ (∃ fl, C[9]? = some (.bool fl)) ∧ ∃ ln, C[11]? = some (.int .i64 ln)
theorem LexAt.lt {w : World} {g : Nat} {s : ByteArray} {pos : Nat} (h : LexAt w g s pos) : g < w.heap.size := by
  obtain ⟨C, h, _⟩ := h
  exact (Array.getElem?_eq_some_iff.1 h).1
theorem LexAt.c2 {w : World} {g : Nat} {s : ByteArray} {pos : Nat} (h : LexAt w g s pos) : w.cell? ⟨g, 2, none⟩ = some (.string s) := by
  obtain ⟨C, h, _, h2, _⟩ := h
  rw [heap_cell h]; exact h2
theorem LexAt.c10 {w : World} {g : Nat} {s : ByteArray} {pos : Nat} (h : LexAt w g s pos) : w.cell? ⟨g, 10, none⟩ = some (.int .i64 pos) := by
  obtain ⟨C, h, _, _, h2, _⟩ := h
  rw [heap_cell h]; exact h2
theorem LexAt.c9 {w : World} {g : Nat} {s : ByteArray} {pos : Nat} (h : LexAt w g s pos) : ∃ fl, w.cell? ⟨g, 9, none⟩ = some (.bool fl) := by
  obtain ⟨C, h, _, _, _, ⟨fl, h2⟩, _⟩ := h
  exact ⟨fl, (heap_cell h 9).trans h2⟩
theorem LexAt.c11 {w : World} {g : Nat} {s : ByteArray} {pos : Nat} (h : LexAt w g s pos) : ∃ ln, w.cell? ⟨g, 11, none⟩ = some (.int .i64 ln) := by
  obtain ⟨C, h, _, _, _, _, ln, h2⟩ := h
  exact ⟨ln, (heap_cell h 11).trans h2⟩
theorem LexAt.c12 {w : World} {g : Nat} {s : ByteArray} {pos : Nat} (h : LexAt w g s pos) : ∃ v, w.cell? ⟨g, 12, none⟩ = some v := by
  obtain ⟨C, h, hz, _⟩ := h
  exact ⟨C[12]'(by omega), (heap_cell h 12).trans (Array.getElem?_eq_getElem (by omega))⟩
theorem LexAt.free {w : World} {g : Nat} {s : ByteArray} {pos : Nat} (h : LexAt w g s pos) (j : Nat) : w.frozen? ⟨g, j, none⟩ = false := by
  obtain ⟨C, h, _⟩ := h
  exact heap_free h j
theorem LexAt.move {w w' : World} {g : Nat} {s : ByteArray} {pos : Nat} (h : LexAt w g s pos) (hb : w'.heap[g]? = w.heap[g]?) : LexAt w' g s pos := by
  obtain ⟨C, h, r⟩ := h
  exact ⟨C, hb.trans h, r⟩
theorem LexAt.set10 {w : World} {g : Nat} {s : ByteArray} {pos : Nat} (h : LexAt w g s pos) (p : Nat) : LexAt (w.setCell ⟨g, 10, none⟩ (.int .i64 p)) g s p := by
  obtain ⟨C, h, hz, h2, h10, h9, h11⟩ := h
  refine ⟨_, heap_set h 10 _, by simp [hz], ?_, ?_, ?_, ?_⟩
  · simpa [Array.getElem?_setIfInBounds] using h2
  · simp [hz]
  · simpa [Array.getElem?_setIfInBounds] using h9
  · simpa [Array.getElem?_setIfInBounds] using h11
theorem LexAt.set9 {w : World} {g : Nat} {s : ByteArray} {pos : Nat} (h : LexAt w g s pos) (b : Bool) : LexAt (w.setCell ⟨g, 9, none⟩ (.bool b)) g s pos := by
  obtain ⟨C, h, hz, h2, h10, h9, h11⟩ := h
  refine ⟨_, heap_set h 9 _, by simp [hz], ?_, ?_, ⟨b, ?_⟩, ?_⟩
  · simpa [Array.getElem?_setIfInBounds] using h2
  · simpa [Array.getElem?_setIfInBounds] using h10
  · simp [hz]
  · simpa [Array.getElem?_setIfInBounds] using h11
theorem LexAt.set11 {w : World} {g : Nat} {s : ByteArray} {pos : Nat} (h : LexAt w g s pos) (n : Int) : LexAt (w.setCell ⟨g, 11, none⟩ (.int .i64 n)) g s pos := by
  obtain ⟨C, h, hz, h2, h10, h9, h11⟩ := h
  refine ⟨_, heap_set h 11 _, by simp [hz], ?_, ?_, ?_, ⟨n, ?_⟩⟩
  · simpa [Array.getElem?_setIfInBounds] using h2
  · simpa [Array.getElem?_setIfInBounds] using h10
  · simpa [Array.getElem?_setIfInBounds] using h9
  · simp [hz]
theorem LexAt.set12 {w : World} {g : Nat} {s : ByteArray} {pos : Nat} (h : LexAt w g s pos) (v : Value) : LexAt (w.setCell ⟨g, 12, none⟩ v) g s pos := by
  obtain ⟨C, h, hz, h2, h10, h9, h11⟩ := h
  refine ⟨_, heap_set h 12 _, by simp [hz], ?_, ?_, ?_, ?_⟩
  · simpa [Array.getElem?_setIfInBounds] using h2
  · simpa [Array.getElem?_setIfInBounds] using h10
  · simpa [Array.getElem?_setIfInBounds] using h9
  · simpa [Array.getElem?_setIfInBounds] using h11

/-- White space, of a code point. -/
def blkZ (c : Int) : Bool := decide (c = 32) || decide (c = 9) || decide (c = 13)
def wsZ (c : Int) : Bool := decide (c = 10) || blkZ c
theorem horiz_any (c : Int) (w : World) : Calls Tryd.prog 37 #[.int .i32 c] w fun e w' => e = .returned (.bool (blkZ c)) ∧ w = w' := by
  by_cases h1 : c = 32
  · subst h1
    go_enter Tryd.func37, Tryd.ntmps37
    go_wp2
    go_ret
    exact ⟨rfl, rfl⟩
  · by_cases h2 : c = 9
    · subst h2
      go_enter Tryd.func37, Tryd.ntmps37
      go_wp2
      go_ret
      exact ⟨rfl, rfl⟩
    · go_enter Tryd.func37, Tryd.ntmps37
      go_wp2
      go_ret
      exact ⟨by simp [blkZ, h1, h2]; rfl, rfl⟩
theorem space_q (c : Int) (w : World) : Calls Tryd.prog 44 #[.int .i32 c] w fun e w' => e = .returned (.bool (wsZ c)) ∧ w = w' := by
  by_cases h1 : c = 10
  · subst h1
    go_enter Tryd.func44, Tryd.ntmps44
    go_wp2
    go_ret
    exact ⟨rfl, rfl⟩
  · go_enter Tryd.func44, Tryd.ntmps44
    go_wp2_with (go_at_call 37; refine (horiz_any _ _).mono ?_; rintro e w' ⟨rfl, rfl⟩)
    go_ret
    exact ⟨by simp [wsZ, h1], rfl⟩

def NextP (g : Nat) (s : ByteArray) (p r : Nat) (w : World) (e : Ending) (w' : World) : Prop := e = .returned (.int .i32 r) ∧ LexAt w' g s p ∧ w.grownBy w' (some g)
theorem below_grown {w w' : World} (h : Below w.heap.size w w') (row : Option Nat) : w.grownBy w' row := ⟨h.os, h.tape, h.output, h.size, fun i hi _ => h.block i hi⟩

set_option maxRecDepth 100000 in
set_option maxHeartbeats 2000000 in
theorem next_any (g : Nat) (s : ByteArray) (pos r : Nat) (l : List Nat) (w : World) (hL : LexAt w g s pos) (hR : Rem s pos (r :: l)) (hz : s.size ≤ 2000) (hT : Lib.Utf8Tabs 1 2 w) :
    Calls Tryd.prog 36 #[.pointer (some ⟨g, 0, none⟩)] w (NextP g s (pos + (encB r).length) r w) := by
  have hlt := hR.head.2.2
  have hlt' : (pos : Int) < (s.size : Int) := by omega
  have hlen := encB_pos (hR.2.1 r (List.mem_cons_self ..))
  have k2 := hL.c2
  have k10 := hL.c10
  have HL := Lib.hid hL
  have HR := Lib.hid hR
  have HT := Lib.hid hT
  clear hR hT hL
  go_enter Tryd.func36, Tryd.ntmps36
  go_wp2_with fail
  go_quiet (fail)
  rename_i nq
  have hD : Draws w (w.drewN nq) := ⟨nq, rfl⟩
  generalize w.drewN nq = W at hD ⊢
  have j2 : W.cell? ⟨g, 2, none⟩ = some (.string s) := by obtain ⟨n, rfl⟩ := hD; exact k2
  have j10 : W.cell? ⟨g, 10, none⟩ = some (.int .i64 pos) := by obtain ⟨n, rfl⟩ := hD; exact k10
  have hT2 : Lib.Utf8Tabs 1 2 W := Utf8Tabs_below HT.out hD.below
  have cD := decode_q HR.out W hT2
  have m2 := cell_regrown j2
  have m10 := cell_regrown j10
  have HD := Lib.hid hD
  clear hD hT2 k2 k10
  go_wp2_with fail
  refine wp_region_quiet_below (by kernel_rfl) (by kernel_rfl) ?_
  repeat (go_big_quiet_step (exact cD _ _))
  refine wpQuiet_nil ?_
  intro _ hw'
  obtain ⟨⟨dq, osq⟩, hw''⟩ := hw'
  subst hw''
  have hB2 := HD.out.below.trans ((below_regrown W dq osq).mono (HD.out.below (B := 0)).size)
  clear cD m2 m10 j2 j10
  generalize grow (redrawn W dq) osq = W2 at hB2 ⊢
  have hL2 : LexAt W2 g s pos := HL.out.move (hB2.block g HL.out.lt)
  have k10 := hL2.c10
  obtain ⟨fl, k9⟩ := hL2.c9
  obtain ⟨ln, k11⟩ := hL2.c11
  obtain ⟨x12, k12⟩ := hL2.c12
  have f9 := hL2.free 9
  have f10 := hL2.free 10
  have f11 := hL2.free 11
  have f12 := hL2.free 12
  have hz1 : (pos : Int) + ((encB r).length : Int) ≤ 3000 := by omega
  have ep : ((pos + (encB r).length : Nat) : Int) = (pos : Int) + ((encB r).length : Int) := by omega
  have hl3 := hL2.set10 (pos + (encB r).length)
  have hg3 := Lib.grownBy_setB (below_grown hB2 (some g)) 10 (.int .i64 ((pos + (encB r).length : Nat) : Int))
  rw [ep] at hl3 hg3
  have HL3 := Lib.hid hl3
  have HG3 := Lib.hid hg3
  clear ep hl3 hg3
  clear hB2 hL2 HL HD
  by_cases h10 : r = 10
  · subst h10
    go_wp2_with fail
    go_ret
    exact ⟨rfl, ((HL3.out.set12 _).set11 _).set9 true, Lib.grownBy_setB (Lib.grownBy_setB (Lib.grownBy_setB HG3.out 12 _) 11 _) 9 _⟩
  · have h10q : ((r : Int) == 10) = false := by simp; omega
    obtain ⟨z, hzr⟩ : ∃ z : Int, (r : Int) = z := ⟨_, rfl⟩
    have HZ := Lib.hid hzr
    rw [hzr] at h10q ⊢
    clear h10 hzr
    cases fl with
    | false =>
      go_wp2_with fail
      go_ret
      exact ⟨by rw [HZ.out]; rfl, HL3.out, HG3.out⟩
    | true =>
      go_wp2_with (go_at_call 44; refine (space_q _ _).mono ?_; rintro e w' ⟨rfl, rfl⟩; refine Hid.out ?_)
      refine Lib.hid ?_
      clear h10q
      cases hw : wsZ z
      all_goals clear hw
      all_goals go_wp2_with fail
      · go_ret
        exact ⟨by rw [HZ.out]; rfl, HL3.out.set9 false, Lib.grownBy_setB HG3.out 9 _⟩
      · go_ret
        exact ⟨by rw [HZ.out]; rfl, HL3.out, HG3.out⟩
end Go.Proofs.YtlbgmcpjdfoalaaDoor
