/- The contract of impl.FodderMove. -/
import Derived.Test.YtelmcpolmcfmpaaMoveA
import Derived.OwnWalk
namespace Go.Proofs.Ytelmcpolmcfmpaa
open Go.RowKit

def IMove (la lb : List El) (w : World) (e : Ending) (w' : World) : Prop := ∃ v' v'', e = .returned (.tuple #[v', v'', .bool true]) ∧ LOwn 28 eRow w' w.heap.size v' (concF lb la) ∧ LOwn 28 eRow w' w.heap.size v'' [] ∧ Below w.heap.size w w'

theorem alloc_at (w : World) (o : Obj) : (w.alloc o).heap[w.heap.size]? = some o := by
  show (w.heap.push o)[w.heap.size]? = some o
  exact Array.getElem?_push_size
theorem alloc_old (w : World) (o : Obj) {k : Nat} (h : k < w.heap.size) : (w.alloc o).heap[k]? = w.heap[k]? := by
  simp only [World.alloc, Array.getElem?_push]
  rw [if_neg (by omega)]
theorem LOwn.setFod {T : TypeId} {row : El → Value → List Value} {w : World} {base g : Nat} {v : Value} {es : List El} {cs : Array Value} (h : LOwn T row w base v es) (hg : w.heap[g]? = some (.cells cs 46 (0, 0))) (hT : T ≠ 46) (u : Value) :
    LOwn T row (w.setCell ⟨g, 0, none⟩ u) base v es :=
  h.only (b2 := base) (va := .slice none 0 0) (World.ownsRow_nil _ _ _ _) (Only.set ⟨rfl, rfl, rfl, Nat.le_refl _, fun _ _ _ _ => rfl⟩ 0 u) hg hT (by
    cases hv : v.ownBlock with
    | none => exact .inl rfl
    | some k => exact .inr (by simp [Value.ownBlock]))
theorem no_small : SmallEls [] := ⟨by simp, by simp⟩

set_option maxRecDepth 100000 in
set_option maxHeartbeats 2000000 in
theorem imove_any (va vb : Value) (la lb : List El) (w : World) (ha : ElsV w w.heap.size va la) (hb : ElsV w w.heap.size vb lb) (ga : GoodEls la) (gb : GoodEls lb) (hd : NotDull lb la) :
    Calls Try.prog 16 #[va, vb] w (IMove la lb w) := by
  have HA := Lib.hid ha
  have HB := Lib.hid hb
  have GA := Lib.hid ga
  have GB := Lib.hid gb
  have HD := Lib.hid hd
  clear ha hb ga gb hd
  go_enter Try.func16, Try.ntmps16
  go_wp2_with fail
  refine (ifodder_any va la _ HA.out GA.out).mono ?_
  rintro e w1 ⟨v1, rfl, ho1, hb1⟩
  obtain ⟨A1, c1, rfl⟩ := ho1.form
  have HO1 := Lib.hid ho1
  clear ho1
  go_wp2_with fail
  have hs1 := hb1.size
  generalize hw2 : w1.alloc (.cells #[.slice A1 la.length c1] 46) = w2 at *
  have hs2 : w2.heap.size = w1.heap.size + 1 := by subst hw2; simp
  have hg2 : w2.heap[w1.heap.size]? = some (.cells #[.slice A1 la.length c1] 46 (0, 0)) := by subst hw2; exact alloc_at _ _
  have hb2 : Below w.heap.size w w2 := by subst hw2; exact hb1.alloc hs1 _
  have HO2 : Hid (LOwn 71 fRow w2 w.heap.size (.slice A1 la.length c1) la) := by subst hw2; exact Lib.hid (HO1.out.alloc _)
  clear hw2
  refine (ifodder_any vb lb _ ((HB.out.below hb2 (Nat.le_refl _)).mono_ hb2.size) GB.out).mono ?_
  rintro e w3 ⟨v3, rfl, ho3, hb3⟩
  obtain ⟨A3, c3, rfl⟩ := ho3.form
  have HO3 := Lib.hid ho3
  clear ho3
  go_wp2_with fail
  have hs3 := hb3.size
  generalize hw4 : w3.alloc (.cells #[.slice A3 lb.length c3] 46) = w4 at *
  have hs4 : w4.heap.size = w3.heap.size + 1 := by subst hw4; simp
  have hg4 : w4.heap[w3.heap.size]? = some (.cells #[.slice A3 lb.length c3] 46 (0, 0)) := by subst hw4; exact alloc_at _ _
  have hg4a : w4.heap[w1.heap.size]? = some (.cells #[.slice A1 la.length c1] 46 (0, 0)) := by
    subst hw4
    rw [← hg2, ← hb3.block _ (by omega)]
    exact alloc_old _ _ (by omega)
  have hb4 : Below w.heap.size w w4 := by subst hw4; exact (hb2.trans (hb3.mono hb2.size)).alloc (by have := hb2.size; omega) _
  have HO4 : Hid (LOwn 71 fRow w4 w.heap.size (.slice A1 la.length c1) la) := by subst hw4; exact Lib.hid ((HO2.out.below hb3).alloc _)
  have HO4b : Hid (LOwn 71 fRow w4 w.heap.size (.slice A3 lb.length c3) lb) := by subst hw4; exact Lib.hid ((HO3.out.alloc _).base_le (by omega))
  have HAP : Hid ((Value.slice A1 la.length c1).ownBlock = none ∨ (Value.slice A1 la.length c1).ownBlock ≠ (Value.slice A3 lb.length c3).ownBlock) := Lib.hid (made_apart_lt HO1.out HO3.out (by omega))
  have hra : ∀ k, (Value.slice A3 lb.length c3).ownBlock = some k → w.heap.size ≤ k := fun k hk => HO4b.out.ge_ hk
  have hn1 := fod_ne hg4a HO4b.out
  have hn3 := fod_ne hg4 HO4b.out
  clear hw4 hg2 HO1 HO2 HO3
  refine (moveFront_any w1.heap.size w3.heap.size w.heap.size _ _ la lb _ hg4a hg4 (by omega) HO4.out HO4b.out HAP.out hb4.size (by have := GA.out.1; omega) (by have := GB.out.1; omega) (good_small GA.out).2 HD.out).mono ?_
  rintro e w5 ⟨v5, w5', rfl, ho5, hg5, rfl⟩
  have hs5 : w4.heap.size ≤ w5'.heap.size := hg5.size
  have hb5' : Below w.heap.size w w5' := hb4.drew.grown hg5 hb4.size hra
  have k1 : w5'.cell? ⟨w1.heap.size, 0, none⟩ = some (.slice A1 la.length c1) := by
    rw [cell_of_row w5' w1.heap.size 0 _ _ (0, 0) ((hg5.block _ (show w1.heap.size < w4.heap.size by omega) hn1).trans hg4a)]; rfl
  have k3 : w5'.cell? ⟨w3.heap.size, 0, none⟩ = some (.slice A3 lb.length c3) := by
    rw [cell_of_row w5' w3.heap.size 0 _ _ (0, 0) ((hg5.block _ (show w3.heap.size < w4.heap.size by omega) hn3).trans hg4)]; rfl
  generalize hw6 : ((w5'.setCell ⟨w1.heap.size, 0, none⟩ v5).setCell ⟨w3.heap.size, 0, none⟩ (.slice (some ⟨w5'.heap.size, 0, none⟩) 0 0)).alloc (.cells #[] 71) = w6 at *
  have hs6 : w6.heap.size = w5'.heap.size + 1 := by subst hw6; simp
  have hb6 : Below w.heap.size w w6 := by subst hw6; exact ((hb5'.setCell (p := ⟨w1.heap.size, 0, none⟩) hs1 _).setCell (p := ⟨w3.heap.size, 0, none⟩) (show w.heap.size ≤ w3.heap.size by omega) _).alloc (by simp; omega) _
  have m1 : w6.cell? ⟨w1.heap.size, 0, none⟩ = some v5 := by
    subst hw6
    rw [World.cell?_alloc_past _ _ _ (by simp; omega), World.cell?_setCell_far _ _ _ _ (by simp; omega)]
    exact World.cell?_setCell_same _ _ _ k1
  have k3' : (w5'.setCell ⟨w1.heap.size, 0, none⟩ v5).cell? ⟨w3.heap.size, 0, none⟩ = some (.slice A3 lb.length c3) := by
    rw [World.cell?_setCell_far _ _ _ _ (by simp; omega)]; exact k3
  have m3 : w6.cell? ⟨w3.heap.size, 0, none⟩ = some (.slice (some ⟨w5'.heap.size, 0, none⟩) 0 0) := by
    subst hw6
    rw [World.cell?_alloc_past _ _ _ (by simp; omega)]
    exact World.cell?_setCell_same _ _ _ k3'
  have b1 : w5'.heap[w1.heap.size]? = some (.cells #[.slice A1 la.length c1] 46 (0, 0)) := (hg5.block _ (show w1.heap.size < w4.heap.size by omega) hn1).trans hg4a
  have b3 : (w5'.setCell ⟨w1.heap.size, 0, none⟩ v5).heap[w3.heap.size]? = some (.cells #[.slice A3 lb.length c3] 46 (0, 0)) := (Below.heap_setCell _ _ _ _ (show w3.heap.size ≠ w1.heap.size by omega)).trans ((hg5.block _ (show w3.heap.size < w4.heap.size by omega) hn3).trans hg4)
  have HO6 : Hid (LOwn 71 fRow w6.drew w.heap.size v5 (concF lb la)) := by subst hw6; exact Lib.hid (((ho5.setFod b1 (by decide) _).setFod b3 (by decide) _).alloc _)
  have HE6 : Hid (LOwn 71 fRow w6.drew w.heap.size (.slice (some ⟨w5'.heap.size, 0, none⟩) 0 0) []) := by
    subst hw6
    refine Lib.hid ⟨[], rfl, ?_, by simp⟩
    have h := World.ownsRow_made ((w5'.setCell ⟨w1.heap.size, 0, none⟩ v5).setCell ⟨w3.heap.size, 0, none⟩ (.slice (some ⟨w5'.heap.size, 0, none⟩) 0 0)) #[] 0 (base := w.heap.size) (e := 71) (size := 4) (by simp; omega) (by unfold maxLen; omega) rfl
    rw [World.size_setCell, World.size_setCell] at h
    exact h
  have hcs := Lib.hid (conc_small GB.out GA.out)
  have B6 := Lib.hid hb6
  obtain ⟨A5, c5, rfl⟩ := ho5.form
  clear hw6 b1 b3 k1 k3 k3' ho5 hg5 hb5' hb4 hb2 hb1 hb3 hg4 hg4a hn1 hn3 HAP HO4 HO4b hb6 hra
  generalize w1.heap.size = g1 at *
  generalize w3.heap.size = g3 at *
  generalize w5'.heap.size = g5 at *
  have l1 : g1 < w6.heap.size := by omega
  have l3 : g3 < w6.heap.size := by omega
  clear hs1 hs2 hs3 hs4 hs5 hs6
  generalize hcl : concF lb la = cl at *
  have HCL := Lib.hid hcl
  clear hcl
  go_wp2
  go_region_law (first | (have HH7 := HB7.out; go_simp; go_at_call 25; refine (elements_any _ [] _ (HE6.out.below HH7).readF no_small).mono ?_; rintro e w8 ⟨v8, rfl, ho8, hb8⟩; have HO8 := Lib.hid ho8; have HB8 := Lib.hid hb8; obtain ⟨A8, c8, rfl⟩ := ho8.form; clear ho8 hb8 HH7) | (go_simp; go_at_call 25; refine (elements_any _ cl _ HO6.out.readF hcs.out).mono ?_; rintro e w7 ⟨v7, rfl, ho7, hb7⟩; have p1 := (hb7.cell (p := ⟨g1, 0, none⟩) l1).trans m1; have p3 := (hb7.cell (p := ⟨g3, 0, none⟩) l3).trans m3; have HO7 := Lib.hid ho7; have HB7 := Lib.hid hb7; obtain ⟨A7, c7, rfl⟩ := ho7.form; clear ho7 hb7))
  all_goals
    go_wp2
    go_ret3
    have hcl := HCL.out
    subst hcl
    have hq7 : Below w.heap.size w w7 := B6.out.drew.trans (HB7.out.mono B6.out.size)
    have hs7 : w.heap.size ≤ w6.drew.heap.size := B6.out.size
    exact ⟨_, _, rfl, (HO7.out.base_le hs7).below HB8.out, HO8.out.base_le hq7.size, hq7.trans (HB8.out.mono hq7.size)⟩
end Go.Proofs.Ytelmcpolmcfmpaa
