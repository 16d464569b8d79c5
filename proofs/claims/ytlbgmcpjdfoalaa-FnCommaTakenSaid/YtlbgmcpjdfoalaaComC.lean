/- CommaOff, impl.CommaTaken. -/
import Derived.Test.YtlbgmcpjdfoalaaComB
namespace Go.Proofs.Ytlbgmcpjdfoalaa
open Go.RowKit

set_option maxRecDepth 100000 in
set_option maxHeartbeats 1000000 in
theorem off_any (gl gc ge base : Nat) (cm : Bool) (vl ve : Value) (la lb : List El) (w : World) (hgl : w.heap[gl]? = some (.cells #[vl] 43 (0, 0))) (hgc : w.heap[gc]? = some (.cells #[.bool cm] 4 (0, 0))) (hge : w.heap[ge]? = some (.cells #[ve] 43 (0, 0)))
    (hne : ge ≠ gl) (bl : base ≤ gl) (bc : base ≤ gc) (be : base ≤ ge) (hl : LOwn 58 fRow w base vl la) (he : LOwn 58 fRow w base ve lb) (hap : ve.ownBlock = none ∨ ve.ownBlock ≠ vl.ownBlock)
    (hla : la.length ≤ 300) (hlb : lb.length ≤ 300) (hcb : ∀ e ∈ lb, e.com.length ≤ 1000) (hd : NotDull la lb) (hcase : cm = true ∨ la = []) :
    Calls Try.prog 20 #[.pointer (some ⟨gl, 0, none⟩), .pointer (some ⟨gc, 0, none⟩), .pointer (some ⟨ge, 0, none⟩)] w (OffP gl gc ge base la lb w) := by
  have hcl : gl < w.heap.size := (Array.getElem?_eq_some_iff.1 hgl).1
  have R : ∀ (c : Value) (o : Obj), Calls Try.prog 29 #[c, .pointer (some ⟨gl, 0, none⟩), .pointer (some ⟨gc, 0, none⟩), .pointer (some ⟨ge, 0, none⟩)] (w.alloc o) (OffP gl gc ge base la lb w) := by
    intro c o
    have lt1 : gl < w.heap.size := (Array.getElem?_eq_some_iff.1 hgl).1
    have lt2 : gc < w.heap.size := (Array.getElem?_eq_some_iff.1 hgc).1
    have lt3 : ge < w.heap.size := (Array.getElem?_eq_some_iff.1 hge).1
    refine (remove_any c gl gc ge base cm vl ve la lb (w.alloc o) ((alloc_old _ _ lt1).trans hgl) ((alloc_old _ _ lt2).trans hgc) ((alloc_old _ _ lt3).trans hge) hne bl bc be (hl.alloc _) (he.alloc _) hap hla hlb hcb hd hcase).mono ?_
    rintro e w' ⟨x1, x2, h1, h2, h3, h4, h5, h6, h7⟩
    exact ⟨x1, x2, h1, h2, h3, h4, h5, h6, ((Below.refl base w).alloc (by omega) o).trans h7⟩
  have HR := Lib.hid R
  clear R hl he hap hd hcb hgl hgc hge
  go_enter Try.func20, Try.ntmps20
  go_wp2_with fail
  refine (HR.out _ _).mono ?_
  rintro e w' hp
  have HP := Lib.hid hp
  obtain ⟨x1, x2, rfl, _⟩ := hp
  go_wp2
  go_end0
  exact HP.out

def ITaken (la lb : List El) (w : World) (e : Ending) (w' : World) : Prop := ∃ v' v'', e = .returned (.tuple #[v', .bool false, v'', .bool true]) ∧ LOwn 39 eRow w' w.heap.size v' [] ∧ LOwn 39 eRow w' w.heap.size v'' (concF la lb) ∧ Below w.heap.size w w'

set_option maxRecDepth 100000 in
set_option maxHeartbeats 2000000 in
theorem itaken_any (va vb : Value) (cm : Bool) (la lb : List El) (w : World) (ha : ElsV w w.heap.size va la) (hb : ElsV w w.heap.size vb lb) (ga : GoodEls la) (gb : GoodEls lb) (hd : NotDull la lb) (hcase : cm = true ∨ la = []) :
    Calls Try.prog 8 #[va, .bool cm, vb] w (ITaken la lb w) := by
  have HA := Lib.hid ha
  have HB := Lib.hid hb
  have GA := Lib.hid ga
  have GB := Lib.hid gb
  have HD := Lib.hid hd
  have HC := Lib.hid hcase
  clear ha hb ga gb hd hcase
  go_enter Try.func8, Try.ntmps8
  go_wp2_with fail
  generalize hw0 : w.alloc (.cells #[.bool cm] 4) = w0 at *
  have hs0 : w0.heap.size = w.heap.size + 1 := by subst hw0; simp
  have hg0 : w0.heap[w.heap.size]? = some (.cells #[.bool cm] 4 (0, 0)) := by subst hw0; exact alloc_at _ _
  have hb0 : Below w.heap.size w w0 := by subst hw0; exact (Below.refl _ _).alloc (Nat.le_refl _) _
  clear hw0
  refine (ifodder_any va la _ ((HA.out.below hb0 (Nat.le_refl _)).mono_ hb0.size) GA.out).mono ?_
  rintro e w1 ⟨v1, rfl, ho1, hb1⟩
  have q1 : Below w.heap.size w w1 := hb0.trans (hb1.mono hb0.size)
  obtain ⟨A1, c1, rfl⟩ := ho1.form
  have HO1 := Lib.hid ho1
  clear ho1
  go_wp2_with fail
  have hs1 := hb1.size
  have hg1 : w1.heap[w.heap.size]? = some (.cells #[.bool cm] 4 (0, 0)) := (hb1.block _ (by omega)).trans hg0
  generalize hw2 : w1.alloc (.cells #[.slice A1 la.length c1] 43) = w2 at *
  have hs2 : w2.heap.size = w1.heap.size + 1 := by subst hw2; simp
  have hg2 : w2.heap[w1.heap.size]? = some (.cells #[.slice A1 la.length c1] 43 (0, 0)) := by subst hw2; exact alloc_at _ _
  have hg2b : w2.heap[w.heap.size]? = some (.cells #[.bool cm] 4 (0, 0)) := by subst hw2; exact (alloc_old _ _ (by omega)).trans hg1
  have hb2 : Below w.heap.size w w2 := by subst hw2; exact q1.alloc q1.size _
  have HO2 : Hid (LOwn 58 fRow w2 w.heap.size (.slice A1 la.length c1) la) := by subst hw2; exact Lib.hid ((HO1.out.alloc _).base_le (by omega))
  clear hw2
  refine (ifodder_any vb lb _ ((HB.out.below hb2 (Nat.le_refl _)).mono_ hb2.size) GB.out).mono ?_
  rintro e w3 ⟨v3, rfl, ho3, hb3⟩
  obtain ⟨A3, c3, rfl⟩ := ho3.form
  have HO3 := Lib.hid ho3
  clear ho3
  go_wp2_with fail
  have hs3 := hb3.size
  have hg3 : w3.heap[w.heap.size]? = some (.cells #[.bool cm] 4 (0, 0)) := (hb3.block _ (by omega)).trans hg2b
  have hg3a : w3.heap[w1.heap.size]? = some (.cells #[.slice A1 la.length c1] 43 (0, 0)) := (hb3.block _ (by omega)).trans hg2
  generalize hw4 : w3.alloc (.cells #[.slice A3 lb.length c3] 43) = w4 at *
  have hs4 : w4.heap.size = w3.heap.size + 1 := by subst hw4; simp
  have hg4 : w4.heap[w3.heap.size]? = some (.cells #[.slice A3 lb.length c3] 43 (0, 0)) := by subst hw4; exact alloc_at _ _
  have hg4a : w4.heap[w1.heap.size]? = some (.cells #[.slice A1 la.length c1] 43 (0, 0)) := by subst hw4; exact (alloc_old _ _ (by omega)).trans hg3a
  have hg4b : w4.heap[w.heap.size]? = some (.cells #[.bool cm] 4 (0, 0)) := by subst hw4; exact (alloc_old _ _ (by omega)).trans hg3
  have hb4 : Below w.heap.size w w4 := by subst hw4; exact (hb2.trans (hb3.mono hb2.size)).alloc (by have := hb2.size; omega) _
  have HO4 : Hid (LOwn 58 fRow w4 w.heap.size (.slice A1 la.length c1) la) := by subst hw4; exact Lib.hid ((HO2.out.below hb3).alloc _)
  have HO4b : Hid (LOwn 58 fRow w4 w.heap.size (.slice A3 lb.length c3) lb) := by subst hw4; exact Lib.hid ((HO3.out.alloc _).base_le (by omega))
  have HAP : Hid ((Value.slice A3 lb.length c3).ownBlock = none ∨ (Value.slice A3 lb.length c3).ownBlock ≠ (Value.slice A1 la.length c1).ownBlock) := Lib.hid (by
    rcases made_apart_lt HO1.out HO3.out (by omega) with h | h
    · cases hv : (Value.slice A3 lb.length c3).ownBlock with
      | none => exact .inl rfl
      | some k => exact .inr (by rw [h]; simp)
    · exact .inr (Ne.symm h))
  clear hw4 hg2 hg2b hg0 hg1 hg3 hg3a HO1 HO2 HO3
  have l1 : w1.heap.size < w4.heap.size := by omega
  have l3 : w3.heap.size < w4.heap.size := by omega
  have l0 : w.heap.size ≤ w4.heap.size := hb4.size
  refine (off_any w1.heap.size w.heap.size w3.heap.size w.heap.size cm _ _ la lb _ hg4a hg4b hg4 (by omega) (by omega) (Nat.le_refl _) (by omega) HO4.out HO4b.out HAP.out (by have := GA.out.1; omega) (by have := GB.out.1; omega) (good_small GB.out).2 HD.out HC.out).mono ?_
  rintro e w6 ⟨vl, ve, rfl, m1, m0, m3, hol, hoe, hb6⟩
  have B6 := Lib.hid (hb4.trans hb6)
  have g6 := hb6.size
  have k0 := World.block_lt_of_cell? w6 _ m0
  have k1 := World.block_lt_of_cell? w6 _ m1
  have k3 := World.block_lt_of_cell? w6 _ m3
  have HL6 : Hid (LOwn 58 fRow w6.drew w.heap.size vl []) := Lib.hid hol
  have HE6 : Hid (LOwn 58 fRow w6.drew w.heap.size ve (concF la lb)) := Lib.hid hoe
  have hcs := Lib.hid (conc_small GA.out GB.out)
  obtain ⟨A5, c5, rfl⟩ := hol.form
  obtain ⟨A6, c6, rfl⟩ := hoe.form
  clear hol hoe hb6 hb4 hg4 hg4a hg4b HO4 HO4b HAP hb1 hb2 hb3 q1
  generalize hcl : concF la lb = cl at *
  have HCL := Lib.hid hcl
  clear hcl
  generalize w1.heap.size = g1 at *
  generalize w3.heap.size = g3 at *
  obtain ⟨g0, hg0⟩ : ∃ g0, w.heap.size = g0 := ⟨_, rfl⟩
  rw [hg0] at m0 k0 ⊢
  have HG0 := Lib.hid hg0
  clear hg0 hs0 hs1 hs2 hs3 hs4 l0 l1 l3 g6
  simp only [] at k0 k1 k3
  replace m1 : w6.cell? ⟨g1, 0, none⟩ = some (.slice A5 0 c5) := m1
  replace HL6 : Hid (LOwn 58 fRow w6.drew w.heap.size (.slice A5 0 c5) []) := HL6
  go_wp2
  go_region_law (first | (have HH7 := HB7.out; go_simp; go_at_call 21; refine (elements_any _ cl _ (HE6.out.below HH7).readF hcs.out).mono ?_; rintro e w8 ⟨v8, rfl, ho8, hb8⟩; have r0 := (hb8.cell (p := ⟨g0, 0, none⟩) (Nat.lt_of_lt_of_le k0 HH7.size)).trans p0; have HO8 := Lib.hid ho8; have HB8 := Lib.hid hb8; obtain ⟨A8, c8, rfl⟩ := ho8.form; clear ho8 hb8 HH7) | (go_simp; go_at_call 21; refine (elements_any _ [] _ HL6.out.readF no_small).mono ?_; rintro e w7 ⟨v7, rfl, ho7, hb7⟩; have p0 := (hb7.cell (p := ⟨g0, 0, none⟩) k0).trans m0; have p1 := (hb7.cell (p := ⟨g1, 0, none⟩) k1).trans m1; have p3 := (hb7.cell (p := ⟨g3, 0, none⟩) k3).trans m3; have HO7 := Lib.hid ho7; have HB7 := Lib.hid hb7; obtain ⟨A7, c7, rfl⟩ := ho7.form; clear ho7 hb7))
  all_goals
    go_wp2
    refine bodyPost_ret (v := .tuple #[_, .bool false, _, .bool true]) (by simp [results, Try.results8, go_sem]; exact ⟨rfl, rfl⟩) rfl ?_
    have hcl := HCL.out
    subst hcl
    have hq7 : Below w.heap.size w w7 := B6.out.drew.trans (HB7.out.mono B6.out.size)
    have hs7 : w.heap.size ≤ w6.drew.heap.size := B6.out.size
    exact ⟨_, _, rfl, (HO7.out.base_le hs7).below HB8.out, HO8.out.base_le hq7.size, hq7.trans (HB8.out.mono hq7.size)⟩
end Go.Proofs.Ytlbgmcpjdfoalaa
