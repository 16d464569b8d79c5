/- A buffer that is made shorter. -/
import Derived.Test.YtlbgmcpjdfoalaaDoorLrG
import Derived.RegionTactic
import Derived.BigRegion
namespace Go.Proofs.YtlbgmcpjdfoalaaDoor
open Go.RowKit Go.Sort Rune

theorem own_take {w : World} {B g len cap n : Nat} {e : TypeId} {xs : List Value} (h : w.ownsRow B e 1 (.slice (some ⟨g, 0, none⟩) len cap) len xs) (hn : n ≤ len) : w.ownsRow B e 1 (.slice (some ⟨g, 0, none⟩) n cap) n (xs.take n) := by
  have hl := h.1
  rcases h.2 with ⟨hv, _⟩ | ⟨g', cap', cur, hv, hb, hc, hnc, hcm, hcs, ht⟩
  · cases hv
  · injection hv with h1 _ h3
    subst h3
    refine ⟨by rw [List.length_take]; omega, .inr ⟨g', cap, cur, by rw [h1], hb, hc, by omega, hcm, hcs, ?_⟩⟩
    rw [← ht, List.take_take]
    congr 1
    omega

def TruncP (B b : Nat) (l : List UInt8) (w : World) (e : Ending) (w' : World) : Prop := e = .returned (.tuple #[]) ∧ Lib.IsBuffer 60 5 B b (Lib.byteCells l) w' ∧ Below B w w' ∧ Lib.OthersKept 5 (some b) w w'
set_option maxRecDepth 100000 in
set_option maxHeartbeats 2000000 in
theorem trunc_any (B b n : Nat) (l : List UInt8) (w : World) (h : Lib.IsBuffer 60 5 B b (Lib.byteCells l) w) (hn : n ≤ l.length) (hl : l.length ≤ 4000) (hBw : B ≤ w.heap.size) : Calls Tryd.prog 39 #[.pointer (some ⟨b, 0, none⟩), .int .i64 n] w (TruncP B b (l.take n) w) := by
  rcases Nat.eq_zero_or_pos n with rfl | hpos
  · go_enter Tryd.func39, Tryd.ntmps39
    go_wp2_with (go_at_call 26; refine (Tryd.Buffer_Reset_k B b _ _ h).mono ?_; rintro e W7 ⟨rfl, h7, b7, k7⟩; refine Hid.out ?_)
    refine Lib.hid ?_
    go_wp2_with fail
    go_end0
    exact ⟨rfl, h7, b7, k7⟩
  · have hbl : (Lib.byteCells l).length = l.length := Lib.byteCells_length l
    have hlt := h.lt
    have hB := h.1
    obtain ⟨_, v, lr, hb, ho, hne⟩ := h
    have h2 : w.cell? ⟨b, 2, none⟩ = some (.int .i8 lr) := by rw [heap_cell hb]; rfl
    have f2 := heap_free hb 2
    obtain ⟨g, cap, rfl, hcap⟩ : ∃ g cap, v = .slice (some ⟨g, 0, none⟩) l.length cap ∧ l.length ≤ cap := by
      rcases ho.2 with ⟨_, h0⟩ | ⟨g, cap, cur, hv, _, _, hnc, _⟩
      · omega
      · exact ⟨g, cap, by rw [hv, hbl], by omega⟩
    rw [hbl] at ho
    have hgb : g ≠ b := fun e => hne (by rw [e]; rfl)
    have hb2 := heap_set hb 2 (.int .i8 0)
    have ho2 := ho.kept (Lib.grownBy_setCell w b 2 (.int .i8 0)) (.inr hne)
    have HI := Lib.hid (show Lib.IsBuffer 60 5 B b (Lib.byteCells l) (w.setCell ⟨b, 2, none⟩ (.int .i8 0)) from ⟨hB, _, 0, by simpa using hb2, by rw [hbl]; exact ho2, hne⟩)
    have HB2 := Lib.hid (show (w.setCell ⟨b, 2, none⟩ (.int .i8 0)).heap[b]? = some (.cells #[.slice (some ⟨g, 0, none⟩) l.length cap, .int .i64 0, .int .i8 0] 60 (0, 0)) by simpa using hb2)
    have HO2 := Lib.hid ho2
    have HG := Lib.hid (Lib.grownBy_setCell w b 2 (.int .i8 0))
    have HBL := Lib.hid hbl
    have HBW := Lib.hid hb
    clear hb2 ho2 ho hb hbl hne
    have hn0 : ¬ (n : Int) < 0 := by omega
    go_enter Tryd.func39, Tryd.ntmps39
    go_wp2_with (go_at_call 38; refine (len_any B b _ _ HI.out).mono ?_; rintro e W2 ⟨rfl, hd⟩; refine Hid.out ?_)
    refine Lib.hid ?_
    rw [HBL.out]
    have HB3 := Lib.hid ((congrArg (·[b]?) hd.heap).trans HB2.out)
    have HO3 := Lib.hid (hd.own HO2.out)
    have HG3 := Lib.hid (HG.out.trans (below_grown hd.below (some b)))
    have k0 : W2.cell? ⟨b, 0, none⟩ = some (.slice (some ⟨g, 0, none⟩) l.length cap) := by rw [heap_cell HB3.out]; rfl
    have k1 : W2.cell? ⟨b, 1, none⟩ = some (.int .i64 0) := by rw [heap_cell HB3.out]; rfl
    have f0 := heap_free HB3.out 0
    clear hd h2 f2
    have hgt : decide (l.length < n) = false := decide_eq_false (by omega)
    go_wp2_with fail
    have hc1 : (n : Int) ≤ (cap : Int) := by omega
    have hc2 : n ≤ cap := by omega
    have hn1 : (n : Int) ≤ 4000 := by omega
    go_region
    go_end0
    have hb4 := heap_set HB3.out 0 (.slice (some ⟨g, 0, none⟩) n cap)
    have ho4 := (own_take HO3.out hn).kept (Lib.grownBy_setCell W2 b 0 (.slice (some ⟨g, 0, none⟩) n cap)) (.inr (fun e => by simp [Value.ownBlock] at e; exact hgb e))
    refine ⟨rfl, ⟨hB, _, 0, hb4, ?_, fun e => by simp [Value.ownBlock] at e; exact hgb e⟩, ?_, ?_⟩
    · have e1 : Lib.byteCells (l.take n) = (Lib.byteCells l).take n := by simp [Lib.byteCells, List.map_take]
      have e2 : (Lib.byteCells (l.take n)).length = n := by rw [Lib.byteCells_length, List.length_take]; omega
      rw [e2, e1]
      exact ho4
    · have hg := Lib.grownBy_setB HG3.out 0 (.slice (some ⟨g, 0, none⟩) n cap)
      exact ⟨hg.os, hg.tape, hg.output, hg.size, fun k hk => hg.block k (by omega) (fun e => by injection e; omega)⟩
    · have hg := Lib.grownBy_setB HG3.out 0 (.slice (some ⟨g, 0, none⟩) n cap)
      intro k x hk hkb _
      exact (hg.block k (Array.getElem?_eq_some_iff.1 hk).1 hkb).trans hk
end Go.Proofs.YtlbgmcpjdfoalaaDoor
