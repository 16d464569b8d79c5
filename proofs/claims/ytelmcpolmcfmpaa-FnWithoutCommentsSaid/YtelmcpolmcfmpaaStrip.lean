/- The contracts of (*StripComments).Fodder and impl.WithoutComments. -/
import Derived.Test.YtelmcpolmcfmpaaFodB
namespace Go.Proofs.Ytelmcpolmcfmpaa
open Go.RowKit

def bare (e : El) : El := { e with com := [] }
def stripL (es : List El) : List El := (es.filter fun e => e.kind == 0).map bare
theorem stripL_snoc_yes (es : List El) (e : El) (h : e.kind = 0) : stripL (es ++ [e]) = stripL es ++ [bare e] := by simp [stripL, List.filter_append, h]
theorem stripL_snoc_no (es : List El) (e : El) (h : ¬ e.kind = 0) : stripL (es ++ [e]) = stripL es := by simp [stripL, List.filter_append, h]
theorem stripL_len (es : List El) : (stripL es).length ≤ es.length := by simp [stripL]; exact List.length_filter_le _ _
theorem stripL_com (es : List El) : ∀ e ∈ stripL es, e.com = [] ∧ e.kind = 0 := by
  intro e he
  simp only [stripL, List.mem_map, List.mem_filter] at he
  obtain ⟨x, ⟨_, hx⟩, rfl⟩ := he
  exact ⟨rfl, by simpa [bare] using hx⟩
theorem stripL_idem (es : List El) : stripL (stripL es) = stripL es := by
  have h : ∀ l : List El, (∀ e ∈ l, e.com = [] ∧ e.kind = 0) → stripL l = l := by
    intro l hl
    induction l with
    | nil => rfl
    | cons e l ih =>
      have h1 := hl e (by simp)
      have h2 := ih (fun x hx => hl x (by simp [hx]))
      have : stripL (e :: l) = bare e :: stripL l := by simp [stripL, h1.2]
      rw [this, h2]
      congr 1
      cases e; simp only at h1; simp [bare, h1.1]
  exact h _ (stripL_com es)

def Stripped (g : Nat) (es : List El) (w : World) (e : Ending) (w' : World) : Prop :=
  ∃ v' w1, e = .returned (.tuple #[]) ∧ w' = w1.setCell ⟨g, 0, none⟩ v' ∧ LOwn 71 fRow w1 w.heap.size v' (stripL es) ∧ Below w.heap.size w w1

set_option maxRecDepth 100000 in
set_option maxHeartbeats 2000000 in
theorem strip_any (c p x : Value) (g : Nat) (v : Value) (es : List El) (w : World) (hc : w.cell? ⟨g, 0, none⟩ = some v) (hf : w.frozen? ⟨g, 0, none⟩ = false) (h1 : FodV w w.heap.size v es) (hg : SmallEls es) :
    Calls Try.prog 24 #[c, p, .pointer (some ⟨g, 0, none⟩), x] w (Stripped g es w) := by
  obtain ⟨i0, hi0, hz0, hz1, hz2⟩ := info_parts fod_info
  have hgl := World.block_lt_of_cell? w _ hc
  obtain ⟨A, cc, rfl⟩ := h1.form
  have H1 := Lib.hid h1
  have HG := Lib.hid hg
  have hlen := hg.1
  clear h1 hg
  have hmk : ∀ w, (Instr.makeSlice 46 (.int .i64 0) (.int .i64 0)).run Try.prog w = .ok (.slice (some ⟨w.heap.size, 0, none⟩) 0 0) (w.alloc (.cells #[] 71)) := fun _ => by kernel_rfl
  go_enter Try.func24, Try.ntmps24
  go_wp2
  go_loopw [8, 17] (fun v i wr => ∃ k : Nat, k ≤ es.length ∧ i = .int .i64 k ∧ LOwn 71 fRow wr w.heap.size v (stripL (es.take k)) ∧ Below w.heap.size w wr) (fun _ i _ => es.length - (intOf i).toNat)
  case atStart =>
    refine ⟨0, Nat.zero_le _, rfl, ⟨[], rfl, ?_, by simp [stripL]⟩, (Below.refl _ _).alloc (Nat.le_refl _) _⟩
    exact World.ownsRow_made w #[] 0 (Nat.le_refl _) (by unfold maxLen; omega) rfl
  case round =>
    obtain ⟨k, hk, rfl, hown, hb⟩ := hrel
    have hsz := hb.size
    have hsl : (stripL (es.take k)).length ≤ 1000 := by have := stripL_len (es.take k); simp at this; omega
    obtain ⟨A4, c4, rfl⟩ := hown.form
    obtain ⟨m, hm⟩ : ∃ m, (stripL (es.take k)).length = m := ⟨_, rfl⟩
    rw [hm] at hown hsl ⊢
    obtain ⟨cvs, hcl, ho4, hcs⟩ := hown
    rw [hm] at ho4
    have HM := Lib.hid hm
    have HO4 := Lib.hid ho4
    have HCS := Lib.hid hcs
    have HCL := Lib.hid hcl
    clear ho4 hcs hcl hm
    by_cases hlt : k < es.length
    · obtain ⟨b, off, Ac, cca, rfl, hbB, hcv, c0, c1, c2, c3⟩ := (H1.out.below hb (Nat.le_refl _)).at_ hlt
      clear hcv
      have hlt' : (k : Int) < (es.length : Int) := by omega
      by_cases hk0 : es[k].kind = 0
      · have hk0' : (es[k].kind == 0) = true := by simp [hk0]
        have HK0 := Lib.hid hk0
        clear hk0
        go_wp2_with (first
          | (at_builtin; refine wpList_append_rowV _ rfl (.tmp 26) (.tmp 28) _ rfl w.heap.size 71 i0 _ 4 48 Try.underlying46 hi0 hz0 hz1 hz2 rfl (by omega) (.slice A4 m c4) m (lrows fRow (stripL (es.take k)) cvs) rfl (((HO4.out.alloc _).alloc _).alloc _) (some ⟨wr.heap.size + 2, 0, none⟩) 1 1 (fRow (bare es[k]) (.slice none 0 0)) rfl rfl (fun _ => ⟨_, rfl, news_at (cs := #[.slice none 0 0, .int .i64 es[k].kind, .int .i64 es[k].blanks, .int .i64 es[k].indent]) (by simp)⟩) (by simp [fRow, Value.oneCell']) (by unfold maxLen; omega) (by omega) (by simp; omega) ?_; intro A2 c2' w2 hap2))
        go_roundw
        case rel =>
          refine ⟨k + 1, by omega, by go_num, ?_, (((hb.alloc hsz _).alloc (by simp; omega) _).alloc (by simp; omega) _).grown hap2.grown (by simp; omega) (fun g' hgg => (HO4.out.lt g' hgg).1)⟩
          rw [List.take_succ_eq_append_getElem hlt, stripL_snoc_yes _ _ HK0.out]
          exact lown_push (by decide) HCL.out HM.out (((HO4.out.alloc _).alloc _).alloc _) (fun p hp => (((HCS.out p hp).alloc _).alloc _).alloc _) (World.ownsRow_nil _ _ _ _) hap2.grown hap2.own
        case measure => simp [intOf]; omega
      · have hk0' : (es[k].kind == 0) = false := by simp [hk0]
        have HK0 := Lib.hid hk0
        clear hk0
        go_wp2
        go_roundw
        case rel =>
          refine ⟨k + 1, by omega, by go_num, ?_, hb.alloc hsz _⟩
          rw [List.take_succ_eq_append_getElem hlt, stripL_snoc_no _ _ HK0.out]
          have h := HM.out
          subst h
          exact LOwn.alloc ⟨cvs, HCL.out, HO4.out, HCS.out⟩ _
        case measure => simp [intOf]; omega
    · obtain rfl : k = es.length := by omega
      have hcr : wr.cell? ⟨g, 0, none⟩ = some (.slice A es.length cc) := (hb.cell (p := ⟨g, 0, none⟩) hgl).trans hc
      have hfr : wr.frozen? ⟨g, 0, none⟩ = false := (hb.frozen (p := ⟨g, 0, none⟩) hgl).trans hf
      go_wp2
      go_end0
      refine ⟨_, wr, rfl, rfl, ?_, hb⟩
      have h := HM.out
      subst h
      have h2 : LOwn 71 fRow wr w.heap.size _ _ := ⟨cvs, HCL.out, HO4.out, HCS.out⟩
      simpa only [List.take_length] using h2

theorem LOwn.setCell {T : TypeId} {row : El → Value → List Value} {w : World} {base : Nat} {v : Value} {es : List El} (h : LOwn T row w base v es) {p : Addr} (hp : p.block < base) (u : Value) : LOwn T row (w.setCell p u) base v es := by
  obtain ⟨cvs, hl, ho, hc⟩ := h
  exact ⟨cvs, hl, ownsRow_setCell_below ho hp u, fun q hq => ownsRow_setCell_below (hc q hq) hp u⟩
def Without (es : List El) (w : World) (e : Ending) (w' : World) : Prop := ∃ v', e = .returned (.tuple #[v', .bool true]) ∧ LOwn 28 eRow w' w.heap.size v' (stripL es) ∧ Below w.heap.size w w'
theorem good_small {es : List El} (h : GoodEls es) : SmallEls es := ⟨by have := h.1; omega, fun e he => by have := (elemB_kind (h.2 e he)).2.2; omega⟩
theorem strip_small {es : List El} (h : SmallEls es) : SmallEls (stripL es) := ⟨by have := stripL_len es; have := h.1; omega, fun e he => by rw [(stripL_com es e he).1]; simp⟩

set_option maxRecDepth 100000 in
set_option maxHeartbeats 2000000 in
theorem without_any (v : Value) (es : List El) (w : World) (h1 : ElsV w w.heap.size v es) (hg : GoodEls es) :
    Calls Try.prog 9 #[v] w (Without es w) := by
  have H1 := Lib.hid h1
  have HG := Lib.hid hg
  clear h1 hg
  go_enter Try.func9, Try.ntmps9
  go_wp2_with fail
  refine (ifodder_any v es _ H1.out HG.out).mono ?_
  rintro e w1 ⟨v1, rfl, ho1, hb1⟩
  obtain ⟨A1, c1, rfl⟩ := ho1.form
  have HO := Lib.hid ho1
  clear ho1
  go_wp2_with fail
  refine (strip_any _ _ _ w1.heap.size (.slice A1 es.length c1) es _ (by simp [go_sem]) (by simp [go_sem]) ((HO.out.alloc _).alloc _).readF (good_small HG.out)).mono ?_
  rintro e w' ⟨v2, w2, rfl, rfl, ho2, hb2⟩
  have hs2 : w1.heap.size + 2 ≤ w2.heap.size := by have := hb2.size; simpa using this
  have hbw2 : Below w.heap.size w w2 := ((hb1.alloc hb1.size _).alloc (by have := hb1.size; simp; omega) _).trans (hb2.mono (by have := hb1.size; simp; omega))
  have hcell : w2.cell? ⟨w1.heap.size, 0, none⟩ = some (.slice A1 es.length c1) := by
    rw [hb2.cell (p := ⟨w1.heap.size, 0, none⟩) (by simp; omega)]
    simp [go_sem]
  have hcell2 : (w2.setCell ⟨w1.heap.size, 0, none⟩ v2).cell? ⟨w1.heap.size, 0, none⟩ = some v2 := World.cell?_setCell_same _ _ _ hcell
  have HO2 := Lib.hid (LOwn.setCell ho2 (p := ⟨w1.heap.size, 0, none⟩) (by simp; omega) v2)
  have hb3 := hbw2.setCell (p := ⟨w1.heap.size, 0, none⟩) hb1.size v2
  have hs3 : w1.heap.size + 2 ≤ (w2.setCell ⟨w1.heap.size, 0, none⟩ v2).heap.size := by simpa using hs2
  obtain ⟨A2, c2, rfl⟩ := ho2.form
  generalize w2.setCell ⟨w1.heap.size, 0, none⟩ (.slice A2 (stripL es).length c2) = w3 at *
  clear hcell ho2 hb2 hbw2
  go_wp2_with fail
  refine (elements_any _ (stripL es) _ HO2.out.readF (strip_small (good_small HG.out))).mono ?_
  rintro e w4 ⟨v4, rfl, ho4, hb4⟩
  obtain ⟨A4, c4, rfl⟩ := ho4.form
  have HO4 := Lib.hid ho4
  clear ho4
  go_wp2
  go_ret2
  exact ⟨_, rfl, HO4.out.base_le (by have := hb1.size; omega), hb3.trans (hb4.mono (by have := hb1.size; omega))⟩
end Go.Proofs.Ytelmcpolmcfmpaa
