/- The parts of a line: impl.LineParts. -/
import Derived.Test.YtlbgmcpjdfoalaaDoorLpB
namespace Go.Proofs.YtlbgmcpjdfoalaaDoor
open Go.RowKit Go.Sort Rune

def PartsP (R : List UInt8) (a b : Nat) (w : World) (e : Ending) (w' : World) : Prop :=
  e = .returned (.tuple #[.string (ba (cut R 0 (a - 1))), .string (ba (cut R (a - 1) (b - 1))), .string (ba (cut R (b - 1) (R.length - 1)))]) ∧ Below w.heap.size w w'

theorem src_of {w : World} {g : Nat} {v fn : Value} {rows : List (List UInt8)} (h1 : w.heap[g]? = some (.cells #[fn, v] 40)) (h2 : RowV w w.heap.size v (rowsV rows)) : SrcAt w g rows := ⟨fn, v, h1, h2⟩

set_option maxRecDepth 100000 in
set_option maxHeartbeats 4000000 in
theorem parts_any (X : ByteArray) (l0 : List Nat) (L a b : Nat) (rows : List (List UInt8)) (w : World) (hX : Rem X 0 l0) (hz : X.size ≤ 4000) (hrows : rowsOf [] X.data.toList = rows) (hL : L < rows.length) (hLs : rows.length ≤ 4000) (h1 : 1 ≤ a) (h2 : a ≤ b) (h3 : b < (rows[L]'hL).length) (h4 : (rows[L]'hL).length ≤ 4000) :
    Calls Tryd.prog 8 #[.string X, .agg #[.int .i64 ((L + 1 : Nat) : Int), .int .i64 a], .agg #[.int .i64 ((L + 1 : Nat) : Int), .int .i64 b]] w (PartsP (rows[L]'hL) a b w) := by
  have HX := Lib.hid hX
  have HROWS := Lib.hid hrows
  clear hX hrows
  obtain ⟨R, hR⟩ : ∃ R, rows[L] = R := ⟨_, rfl⟩
  have HR := Lib.hid hR
  rw [hR] at h3 h4 ⊢
  clear hR
  -- the callees, at the classes of worlds
  have HWI := Lib.hid (fun (W : World) (v : Value) (c : Nat) (hr : RowV W W.heap.size v (rowsV rows)) (q1 : 1 ≤ c) (q2 : c ≤ R.length) (d : Nat) (os : Array Obj) =>
    Calls.regrown_of (within_any L c v rows (grow (redrawn W d) os) ((hr.below (below_regrown W d os) (Nat.le_refl _)).more (below_regrown W d os).size) hL hLs q1 (by rw [HR.out]; exact q2) (by rw [HR.out]; exact h4)))
  have HBE := Lib.hid (fun (W : World) (Z : Int) (d : Nat) (os : Array Obj) => Calls.regrown_of (before_any Z a b (by omega) (grow (redrawn W d) os)))
  have HBG := Lib.hid (fun (W : World) (p g : Nat) (fn : ByteArray) (Z : Int) (h : W.heap[p]? = some (.cells #[.pointer (some ⟨g, 0, none⟩), .string fn, .int .i64 Z, .int .i64 a, .int .i64 Z, .int .i64 b] 44)) (d : Nat) (os : Array Obj) =>
    Calls.regrown_of (begin_any p g fn Z a b (grow (redrawn W d) os) (((below_regrown W d os).block p (Array.getElem?_eq_some_iff.1 h).1).trans h)))
  have HEN := Lib.hid (fun (W : World) (p g : Nat) (fn : ByteArray) (h : W.heap[p]? = some (.cells #[.pointer (some ⟨g, 0, none⟩), .string fn, .int .i64 ((L + 1 : Nat) : Int), .int .i64 a, .int .i64 ((L + 1 : Nat) : Int), .int .i64 b] 44)) (hS : SrcAt W g rows) (d : Nat) (os : Array Obj) =>
    Calls.regrown_of (end_any p g L fn a b rows (grow (redrawn W d) os) (((below_regrown W d os).block p (Array.getElem?_eq_some_iff.1 h).1).trans h) (hS.below (below_regrown W d os)) hL hLs))
  have HSN := Lib.hid (fun (W : World) (g : Nat) (fn : ByteArray) (sp : Value) (c1 c2 : Nat) (hS : SrcAt W g rows) (q1 : 1 ≤ c1) (q2 : c1 ≤ c2) (q3 : c2 ≤ R.length + 1) (d : Nat) (os : Array Obj) =>
    Calls.regrown_of (snip_any g L c1 c2 sp fn rows (grow (redrawn W d) os) (hS.below (below_regrown W d os)) hL hLs q1 q2 (by rw [HR.out]; exact q3) (by rw [HR.out]; exact h4)))
  rw [HR.out] at HEN HSN
  obtain ⟨Z, hZ⟩ : ∃ Z : Int, ((L + 1 : Nat) : Int) = Z := ⟨_, rfl⟩
  rw [hZ] at HWI HEN HSN ⊢
  have hZ4 : Z ≤ 4000 := by omega
  have hZ1 : 1 ≤ Z := by omega
  clear hZ
  have hb0 : Below w.heap.size w ((w.alloc (.cells #[.int .i64 Z, .int .i64 a] 28)).alloc (.cells #[.int .i64 Z, .int .i64 b] 28)) := ((Below.refl _ _).alloc (Nat.le_refl _) _).alloc (by simp) _
  have n0 := heap_after (heap_alloc_new w (.cells #[.int .i64 Z, .int .i64 a] 28)) (.cells #[.int .i64 Z, .int .i64 b] 28)
  have n1 := heap_alloc_new (w.alloc (.cells #[.int .i64 Z, .int .i64 a] 28)) (.cells #[.int .i64 Z, .int .i64 b] 28)
  rw [World.size_alloc] at n1
  have HB0 := Lib.hid hb0
  have HN0 := Lib.hid n0
  have HN1 := Lib.hid n1
  clear hb0 n0 n1
  go_enter Tryd.func8, Tryd.ntmps8
  go_wp2_with (go_at_call 14; refine (build_any X _ l0 HX.out hz _).mono ?_; rintro e W1 ⟨g, v, rfl, hg, hr, hb⟩; refine Hid.out ?_)
  refine Lib.hid ?_
  rw [HROWS.out] at hr
  have HB1 := Lib.hid (HB0.out.trans (hb.mono HB0.out.size))
  have HM0 := Lib.hid ((hb.block _ (Array.getElem?_eq_some_iff.1 HN0.out).1).trans HN0.out)
  have HM1 := Lib.hid ((hb.block _ (Array.getElem?_eq_some_iff.1 HN1.out).1).trans HN1.out)
  have HS1 := Lib.hid (src_of hg hr)
  have HG1 := Lib.hid hg
  have cW1 := HWI.out W1 v a hr h1 (by omega)
  have cW2 := HWI.out W1 v b hr (by omega) (by omega)
  have cB := HBE.out W1 Z
  clear hb hr hg HB0 HN0 HN1
  have g1 : W1.cell? ⟨g, 1, none⟩ = some v := by rw [heap_cell HG1.out]; rfl
  have a0 : W1.cell? ⟨w.heap.size, 0, none⟩ = some (.int .i64 Z) := by rw [heap_cell HM0.out]; rfl
  have a1 : W1.cell? ⟨w.heap.size, 1, none⟩ = some (.int .i64 a) := by rw [heap_cell HM0.out]; rfl
  have b0 : W1.cell? ⟨w.heap.size + 1, 0, none⟩ = some (.int .i64 Z) := by rw [heap_cell HM1.out]; rfl
  have b1 : W1.cell? ⟨w.heap.size + 1, 1, none⟩ = some (.int .i64 b) := by rw [heap_cell HM1.out]; rfl
  have rg1 := cell_regrown g1
  have ra0 := cell_regrown a0
  have ra1 := cell_regrown a1
  have rb0 := cell_regrown b0
  have rb1 := cell_regrown b1
  clear g1 a0 a1 b0 b1
  go_wp2_with fail
  refine wp_region_quiet_below (by kernel_rfl) (by kernel_rfl) ?_
  repeat (go_big_quiet_step (first | (with_reducible exact cW1 _ _) | (with_reducible exact cW2 _ _) | (with_reducible exact cB _ _)))
  refine wpQuiet_nil ?_
  intro _ hw'
  obtain ⟨⟨dq, osq⟩, hw''⟩ := hw'
  subst hw''
  have hb2 := below_regrown W1 dq osq
  clear cW1 cW2 cB rg1 ra0 ra1 rb0 rb1
  simp only at hb2 ⊢
  generalize grow (redrawn W1 dq) osq = W2 at hb2 ⊢
  have HB2 := Lib.hid (HB1.out.trans (hb2.mono HB1.out.size))
  have HO0 := Lib.hid ((hb2.block _ (Array.getElem?_eq_some_iff.1 HM0.out).1).trans HM0.out)
  have HO1 := Lib.hid ((hb2.block _ (Array.getElem?_eq_some_iff.1 HM1.out).1).trans HM1.out)
  have HS2 := Lib.hid (HS1.out.below hb2)
  clear hb2 HB1 HM0 HM1 HS1 HG1
  have a0 : W2.cell? ⟨w.heap.size, 0, none⟩ = some (.int .i64 Z) := by rw [heap_cell HO0.out]; rfl
  have a1 : W2.cell? ⟨w.heap.size, 1, none⟩ = some (.int .i64 a) := by rw [heap_cell HO0.out]; rfl
  have b0 : W2.cell? ⟨w.heap.size + 1, 0, none⟩ = some (.int .i64 Z) := by rw [heap_cell HO1.out]; rfl
  have b1 : W2.cell? ⟨w.heap.size + 1, 1, none⟩ = some (.int .i64 b) := by rw [heap_cell HO1.out]; rfl
  go_wp2_with (go_at_call 17; refine (mkloc_any g _ Z a Z b _).mono ?_; rintro e W3 ⟨rfl, hb3⟩; refine Hid.out ?_)
  refine Lib.hid ?_
  have HB3 := Lib.hid (HB2.out.trans (hb3.mono HB2.out.size))
  have HS3 := Lib.hid (HS2.out.below hb3)
  clear hb3 a0 a1 b0 b1 HB2 HO0 HO1 HS2
  go_wp2_with fail
  have hp4 := heap_after (heap_alloc_new W3 (.cells #[.pointer (some ⟨g, 0, none⟩), .string { data := #[] }, .int .i64 Z, .int .i64 a, .int .i64 Z, .int .i64 b] 44)) (.cells #[] 48)
  have hb4 : Below W3.heap.size W3 ((W3.alloc (.cells #[.pointer (some ⟨g, 0, none⟩), .string { data := #[] }, .int .i64 Z, .int .i64 a, .int .i64 Z, .int .i64 b] 44)).alloc (.cells #[] 48)) := ((Below.refl _ _).alloc (Nat.le_refl _) _).alloc (by simp) _
  generalize (W3.alloc (.cells #[.pointer (some ⟨g, 0, none⟩), .string { data := #[] }, .int .i64 Z, .int .i64 a, .int .i64 Z, .int .i64 b] 44)).alloc (.cells #[] 48) = W4 at hp4 hb4 ⊢
  have HB4 := Lib.hid (HB3.out.trans (hb4.mono HB3.out.size))
  have hS4 := HS3.out.below hb4
  generalize W3.heap.size = p at hp4 ⊢
  have c1 := HBG.out W4 p g { data := #[] } Z hp4
  have c2 := HEN.out W4 p g { data := #[] } hp4 hS4
  have s1 := fun sp => HSN.out W4 g { data := #[] } sp 1 a hS4 (Nat.le_refl _) h1 (by omega)
  have s2 := fun sp => HSN.out W4 g { data := #[] } sp a b hS4 h1 h2 (by omega)
  have s3 := fun sp => HSN.out W4 g { data := #[] } sp b R.length hS4 (by omega) (by omega) (by omega)
  have k0 : W4.cell? ⟨p, 0, none⟩ = some (.pointer (some ⟨g, 0, none⟩)) := by rw [heap_cell hp4]; rfl
  have k1 : W4.cell? ⟨p, 1, none⟩ = some (.string { data := #[] }) := by rw [heap_cell hp4]; rfl
  have k2 : W4.cell? ⟨p, 2, none⟩ = some (.int .i64 Z) := by rw [heap_cell hp4]; rfl
  have k3 : W4.cell? ⟨p, 3, none⟩ = some (.int .i64 a) := by rw [heap_cell hp4]; rfl
  have k4 : W4.cell? ⟨p, 4, none⟩ = some (.int .i64 Z) := by rw [heap_cell hp4]; rfl
  have k5 : W4.cell? ⟨p, 5, none⟩ = some (.int .i64 b) := by rw [heap_cell hp4]; rfl
  have r0 := cell_regrown k0
  have r1 := cell_regrown k1
  have r2 := cell_regrown k2
  have r3 := cell_regrown k3
  have r4 := cell_regrown k4
  have r5 := cell_regrown k5
  clear hp4 hb4 hS4 HB3 HS3 k0 k1 k2 k3 k4 k5
  have s1' : ∀ (sp : Value) (d : Nat) (os : Array Obj), Calls Tryd.prog 18 #[sp, .agg #[.pointer (some ⟨g, 0, none⟩), .string { data := #[] }, .int .i64 Z, .int .i64 1, .int .i64 Z, .int .i64 a]] (grow (redrawn W4 d) os) fun e w'' => e = .returned (.string (ba (cut R 0 (a - 1)))) ∧ ∃ p : Regrown, w'' = grow (redrawn W4 p.d) p.os := s1
  clear s1
  refine wp_region_quiet_below (by kernel_rfl) (by kernel_rfl) ?_
  repeat (go_big_quiet_step (first | (with_reducible exact c1 _ _) | (with_reducible exact c2 _ _) | (with_reducible exact s1' _ _ _) | (with_reducible exact s2 _ _ _) | (with_reducible exact s3 _ _ _)))
  refine wpQuiet_nil ?_
  intro _ hw'
  obtain ⟨⟨dq2, osq2⟩, hw''⟩ := hw'
  subst hw''
  have hb5 := below_regrown W4 dq2 osq2
  clear c1 c2 s1' s2 s3 r0 r1 r2 r3 r4 r5
  simp only at hb5 ⊢
  generalize grow (redrawn W4 dq2) osq2 = W5 at hb5 ⊢
  have HB5 := Lib.hid (HB4.out.trans (hb5.mono HB4.out.size))
  clear hb5
  go_wp2_with fail
  go_ret3
  exact ⟨rfl, HB5.out⟩
end Go.Proofs.YtlbgmcpjdfoalaaDoor
