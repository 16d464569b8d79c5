/- Ranges made, places held against lines, and the parts of a line. -/
import Derived.Test.YtlbgmcpjdfoalaaDoorLpA
namespace Go.Proofs.YtlbgmcpjdfoalaaDoor
open Go.RowKit Go.Sort Rune

set_option maxRecDepth 100000 in
theorem mkloc_any (g : Nat) (fn : ByteArray) (l1 c1 l2 c2 : Int) (w : World) : Calls Tryd.prog 17 #[.string fn, .pointer (some ⟨g, 0, none⟩), .agg #[.int .i64 l1, .int .i64 c1], .agg #[.int .i64 l2, .int .i64 c2]] w fun e w' =>
    e = .returned (.agg #[.pointer (some ⟨g, 0, none⟩), .string fn, .int .i64 l1, .int .i64 c1, .int .i64 l2, .int .i64 c2]) ∧ Below w.heap.size w w' := by
  go_enter Tryd.func17, Tryd.ntmps17
  go_wp2
  refine bodyPost_ret (v := .agg #[.pointer (some ⟨g, 0, none⟩), .string fn, .int .i64 l1, .int .i64 c1, .int .i64 l2, .int .i64 c2]) (by simp [results, Tryd.results17, go_sem]) rfl ⟨rfl, ?_⟩
  exact (((Below.refl _ _).alloc (Nat.le_refl _) _).alloc (by simp) _).alloc (by simp; omega) _

set_option maxRecDepth 100000 in
theorem before_any (L c1 c2 : Int) (h : c1 ≤ c2) (w : World) : Calls Tryd.prog 16 #[.agg #[.int .i64 L, .int .i64 c2], .agg #[.int .i64 L, .int .i64 c1]] w fun e w' => e = .returned (.bool false) ∧ Below w.heap.size w w' := by
  have h' : ¬ c2 < c1 := by omega
  go_enter Tryd.func16, Tryd.ntmps16
  go_wp2
  go_ret
  exact ⟨rfl, ((Below.refl _ _).alloc (Nat.le_refl _) _).alloc (by simp) _⟩

set_option maxRecDepth 100000 in
set_option maxHeartbeats 2000000 in
theorem within_any (L c : Nat) (v : Value) (rows : List (List UInt8)) (w : World) (hr : RowV w w.heap.size v (rowsV rows)) (hL : L < rows.length) (hLs : rows.length ≤ 4000) (h1 : 1 ≤ c) (h2 : c ≤ (rows[L]'hL).length) (h4 : (rows[L]'hL).length ≤ 4000) :
    Calls Tryd.prog 15 #[v, .agg #[.int .i64 ((L + 1 : Nat) : Int), .int .i64 c]] w fun e w' => e = .returned (.bool true) ∧ Below w.heap.size w w' := by
  obtain ⟨A, cc, rfl⟩ := hr.form'
  rw [rowsV_len] at hr ⊢
  obtain ⟨b, off, rfl, hb, hcell⟩ := hr.get (k := L) (u := .string (ba (rows[L]'hL))) (by simp [rowsV, strs, List.getElem?_map, List.getElem?_eq_getElem hL])
  have hbaz : (ba rows[L]).size = rows[L].length := by simp [ba, ByteArray.size]
  have q1 : (1 : Int) ≤ ((L + 1 : Nat) : Int) := by omega
  have q2 : ((L + 1 : Nat) : Int) ≤ (rows.length : Int) := by omega
  have q3 : (1 : Int) ≤ (c : Int) := by omega
  have q4 : (c : Int) ≤ ((ba rows[L]).size : Int) := by omega
  have q5 : ((L + 1 : Nat) : Int) - 1 = (L : Int) := by omega
  have q6 : (0 : Int) ≤ (L : Int) := by omega
  have q7 : (L : Int) < (rows.length : Int) := by omega
  have q8 : (c : Int) ≤ 4000 := by omega
  clear hr
  obtain ⟨Z, hZ⟩ : ∃ Z : Int, ((L + 1 : Nat) : Int) = Z := ⟨_, rfl⟩
  rw [hZ] at q1 q2 q5 ⊢
  have q9 : Z ≤ 4000 := by omega
  clear hZ
  generalize ba rows[L] = S at hcell hbaz q4
  clear h4 h2 hbaz
  have hcells : ∀ o, (w.alloc o).cell? ⟨b, off + L, none⟩ = some (.string S) := fun o => (((Below.refl _ w).alloc (Nat.le_refl _) o).cell (p := ⟨b, off + L, none⟩) hb).trans hcell
  go_enter Tryd.func15, Tryd.ntmps15
  go_wp2_with fail
  go_quiet (fail)
  rename_i nq
  go_wp2_with fail
  go_ret
  exact ⟨rfl, ((Below.refl _ _).alloc (Nat.le_refl _) _).trans ⟨rfl, rfl, rfl, Nat.le_refl _, fun _ _ => rfl⟩⟩

set_option maxRecDepth 100000 in
theorem begin_any (p g : Nat) (fn : ByteArray) (L c1 c2 : Int) (w : World) (h : w.heap[p]? = some (.cells #[.pointer (some ⟨g, 0, none⟩), .string fn, .int .i64 L, .int .i64 c1, .int .i64 L, .int .i64 c2] 44)) :
    Calls Tryd.prog 19 #[.pointer (some ⟨p, 0, none⟩)] w fun e w' => e = .returned (.agg #[.pointer (some ⟨g, 0, none⟩), .string fn, .int .i64 L, .int .i64 1, .int .i64 L, .int .i64 c1]) ∧ Below w.heap.size w w' := by
  have hpl := (Array.getElem?_eq_some_iff.1 h).1
  have c0 : w.cell? ⟨p, 0, none⟩ = some (.pointer (some ⟨g, 0, none⟩)) := by rw [heap_cell h]; rfl
  have c1' : w.cell? ⟨p, 1, none⟩ = some (.string fn) := by rw [heap_cell h]; rfl
  have c2' : w.cell? ⟨p, 2, none⟩ = some (.int .i64 L) := by rw [heap_cell h]; rfl
  have c3 : w.cell? ⟨p, 3, none⟩ = some (.int .i64 c1) := by rw [heap_cell h]; rfl
  have hne : p ≠ w.heap.size := by omega
  have d0 : ∀ o, (w.alloc o).cell? ⟨p, 0, none⟩ = some (.pointer (some ⟨g, 0, none⟩)) := fun o => (((Below.refl _ w).alloc (Nat.le_refl _) o).cell (p := ⟨p, 0, none⟩) hpl).trans c0
  have d1 : ∀ o, (w.alloc o).cell? ⟨p, 1, none⟩ = some (.string fn) := fun o => (((Below.refl _ w).alloc (Nat.le_refl _) o).cell (p := ⟨p, 1, none⟩) hpl).trans c1'
  have d2 : ∀ o, (w.alloc o).cell? ⟨p, 2, none⟩ = some (.int .i64 L) := fun o => (((Below.refl _ w).alloc (Nat.le_refl _) o).cell (p := ⟨p, 2, none⟩) hpl).trans c2'
  have d3 : ∀ o, (w.alloc o).cell? ⟨p, 3, none⟩ = some (.int .i64 c1) := fun o => (((Below.refl _ w).alloc (Nat.le_refl _) o).cell (p := ⟨p, 3, none⟩) hpl).trans c3
  clear c0 c1' c2' c3 h
  go_enter Tryd.func19, Tryd.ntmps19
  go_wp2_with fail
  go_region
  go_wp2_with fail
  refine bodyPost_ret (v := .agg #[.pointer (some ⟨g, 0, none⟩), .string fn, .int .i64 L, .int .i64 1, .int .i64 L, .int .i64 c1]) (by simp [results, Tryd.results19, go_sem]) rfl ⟨rfl, ?_⟩
  exact ((Below.refl _ _).alloc (Nat.le_refl _) _).drew

set_option maxRecDepth 100000 in
set_option maxHeartbeats 4000000 in
theorem end_any (p g L : Nat) (fn : ByteArray) (c1 c2 : Int) (rows : List (List UInt8)) (w : World) (h : w.heap[p]? = some (.cells #[.pointer (some ⟨g, 0, none⟩), .string fn, .int .i64 ((L + 1 : Nat) : Int), .int .i64 c1, .int .i64 ((L + 1 : Nat) : Int), .int .i64 c2] 44))
    (hS : SrcAt w g rows) (hL : L < rows.length) (hLs : rows.length ≤ 4000) :
    Calls Tryd.prog 20 #[.pointer (some ⟨p, 0, none⟩)] w fun e w' => e = .returned (.agg #[.pointer (some ⟨g, 0, none⟩), .string fn, .int .i64 ((L + 1 : Nat) : Int), .int .i64 c2, .int .i64 ((L + 1 : Nat) : Int), .int .i64 ((rows[L]'hL).length : Int)]) ∧ Below w.heap.size w w' := by
  have hpl := (Array.getElem?_eq_some_iff.1 h).1
  obtain ⟨b, off, c, hg1, hcell, hgl, hbl⟩ := hS.get hL
  have q5 : ((L + 1 : Nat) : Int) - 1 = (L : Int) := by omega
  have q6 : (0 : Int) ≤ (L : Int) := by omega
  have q7 : (L : Int) < (rows.length : Int) := by omega
  have q8 : ((L + 1 : Nat) : Int) ≤ 4000 := by omega
  have q4 : (1 : Int) ≤ ((L + 1 : Nat) : Int) := by omega
  have hbaz : (rows[L].length : Int) = ((ba rows[L]).size : Int) := by simp [ba, ByteArray.size]
  rw [hbaz]
  clear hbaz hS
  obtain ⟨Z, hZ⟩ : ∃ Z : Int, ((L + 1 : Nat) : Int) = Z := ⟨_, rfl⟩
  rw [hZ] at q5 q8 q4 h ⊢
  clear hZ
  generalize ba rows[L] = S at hcell ⊢
  have c0 : w.cell? ⟨p, 0, none⟩ = some (.pointer (some ⟨g, 0, none⟩)) := by rw [heap_cell h]; rfl
  have c1' : w.cell? ⟨p, 1, none⟩ = some (.string fn) := by rw [heap_cell h]; rfl
  have c4 : w.cell? ⟨p, 4, none⟩ = some (.int .i64 Z) := by rw [heap_cell h]; rfl
  have c5 : w.cell? ⟨p, 5, none⟩ = some (.int .i64 c2) := by rw [heap_cell h]; rfl
  have hne : p ≠ w.heap.size := by omega
  have d0 : ∀ o, (w.alloc o).cell? ⟨p, 0, none⟩ = some (.pointer (some ⟨g, 0, none⟩)) := fun o => (((Below.refl _ w).alloc (Nat.le_refl _) o).cell (p := ⟨p, 0, none⟩) hpl).trans c0
  have d1 : ∀ o, (w.alloc o).cell? ⟨p, 1, none⟩ = some (.string fn) := fun o => (((Below.refl _ w).alloc (Nat.le_refl _) o).cell (p := ⟨p, 1, none⟩) hpl).trans c1'
  have d4 : ∀ o, (w.alloc o).cell? ⟨p, 4, none⟩ = some (.int .i64 Z) := fun o => (((Below.refl _ w).alloc (Nat.le_refl _) o).cell (p := ⟨p, 4, none⟩) hpl).trans c4
  have d5 : ∀ o, (w.alloc o).cell? ⟨p, 5, none⟩ = some (.int .i64 c2) := fun o => (((Below.refl _ w).alloc (Nat.le_refl _) o).cell (p := ⟨p, 5, none⟩) hpl).trans c5
  have e1 : ∀ o, (w.alloc o).cell? ⟨g, 1, none⟩ = some (.slice (some ⟨b, off, none⟩) rows.length c) := fun o => (((Below.refl _ w).alloc (Nat.le_refl _) o).cell (p := ⟨g, 1, none⟩) hgl).trans hg1
  have e2 : ∀ o, (w.alloc o).cell? ⟨b, off + L, none⟩ = some (.string S) := fun o => (((Below.refl _ w).alloc (Nat.le_refl _) o).cell (p := ⟨b, off + L, none⟩) hbl).trans hcell
  clear c0 c1' c4 c5 h hg1 hcell hgl hbl
  go_enter Tryd.func20, Tryd.ntmps20
  go_wp2_with fail
  go_region
  go_wp2_with fail
  refine bodyPost_ret (v := .agg #[.pointer (some ⟨g, 0, none⟩), .string fn, .int .i64 Z, .int .i64 c2, .int .i64 Z, .int .i64 S.size]) (by simp [results, Tryd.results20, go_sem]) rfl ⟨rfl, ?_⟩
  exact ((Below.refl _ _).alloc (Nat.le_refl _) _).drew
end Go.Proofs.YtlbgmcpjdfoalaaDoor
