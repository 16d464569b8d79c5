/- How an argument that is a list of steps is opened into the walk's words. -/
import Derived.Test.YtadehfoamdkcmaaDoorFdA
import Derived.Test.YtadehfoamdkcmaaDoorOpR
import Derived.Deep.Fields
namespace Go.Proofs.YtadehfoamdkcmaaDoor
open Go.RowKit Go.ChangeShapes Go.WideShapes Go.Deep

section
variable {H : Type} {enc : TypeId × Value → H} {w : World} {spare : Nat → Bool} {held : Bool}

set_option maxRecDepth 100000 in
theorem open_stsV {fuel : Nat} {v : Value} {x : DataW H × List MemPlace} (h : DataW.trod enc Tryd.prog w 0 spare held fuel 22 [v] = some x) :
    ∃ es, StsV w w.heap.size v es ∧ es.length ≤ maxLen ∧ ∀ e ∈ es, (e.rem.size ≤ maxLen ∧ e.hides.length ≤ maxLen ∧ ∀ s ∈ e.names, s.size ≤ maxLen) ∧ e.names.length ≤ maxLen := by
  rcases open_slice Tryd.underlying22 h with ⟨hcs, _⟩ | ⟨a, len, cap, m, n, D, Pl, hcs, _, hlc, hcm, hm, _, hx⟩
  · injection hcs with hv
    subst hv
    exact ⟨[], ⟨none, 0, rfl, fun h => absurd h (by simp)⟩, by simp, by simp⟩
  · injection hcs with hv
    subst hv
    have hlm : len ≤ m := by rw [hm]; split <;> omega
    have hC : Tryd.prog.cellsOf 30 = 4 := by kernel_rfl
    rw [hC] at hx
    have each : ∀ i, i < m → ∃ (e : St) (nv hv : Value), RowV w w.heap.size nv (strs e.names) ∧ RowV w w.heap.size hv (ints e.hides) ∧ ((e.rem.size ≤ maxLen ∧ e.hides.length ≤ maxLen ∧ ∀ s ∈ e.names, s.size ≤ maxLen) ∧ e.names.length ≤ maxLen) ∧
        w.cell? (a.add (i * 4 + 0)) = some (.bool e.is) ∧ w.cell? (a.add (i * 4 + 1)) = some (.string e.rem) ∧ w.cell? (a.add (i * 4 + 2)) = some nv ∧ w.cell? (a.add (i * 4 + 3)) = some hv := by
      intro i hi
      obtain ⟨cs', hc, ht⟩ := hx i hi
      obtain ⟨_, hcl, hat⟩ := World.cells?_some hc
      obtain ⟨ys, n', _, _, _, hyl, hf⟩ := DataW.trod_struct Tryd.underlying30 ht
      match cs', hcl, ys, hyl with
      | [q0, q1, q2, q3], _, [y0, y1, y2, y3], _ =>
        have f0 := hf 0 _ rfl
        have f1 := hf 1 _ rfl
        have f2 := hf 2 _ rfl
        have f3 := hf 3 _ rfl
        simp only [List.getElem?_cons_zero, List.getElem?_cons_succ] at f0 f1 f2 f3
        obtain ⟨n0, e0, _⟩ := DataW.trod_bool Tryd.underlying4 f0
        obtain ⟨n1, e1, _, z1⟩ := DataW.trod_string Tryd.underlying9 f1
        obtain ⟨ss, hr, hs, hss⟩ := open_rowR Tryd.underlying27 (by kernel_rfl) Value.string _ (each_string Tryd.underlying9) f2
        obtain ⟨hh, hr', hs', _⟩ := open_rowR Tryd.underlying28 (by kernel_rfl) (Value.int .i64) _ (each_int Tryd.underlying3) f3
        injection e0 with e0
        injection e1 with e1
        subst e0 e1
        have g0 := hat 0 (by omega)
        have g1 := hat 1 (by omega)
        have g2 := hat 2 (by omega)
        have g3 := hat 3 (by omega)
        rw [Go.Deep.add_add] at g0 g1 g2 g3
        exact ⟨⟨n0, n1, ss, hh⟩, q2, q3, hr, hr', ⟨⟨z1, hs', hss⟩, hs⟩, g0, g1, g2, g3⟩
    let pick : Nat → St × Value × Value := fun i => if hi : i < m then ⟨(each i hi).choose, (each i hi).choose_spec.choose, (each i hi).choose_spec.choose_spec.choose⟩ else ⟨⟨false, ⟨#[]⟩, [], []⟩, .nilIface, .nilIface⟩
    have hp : ∀ i, i < m → RowV w w.heap.size (pick i).2.1 (strs (pick i).1.names) ∧ RowV w w.heap.size (pick i).2.2 (ints (pick i).1.hides) ∧ (((pick i).1.rem.size ≤ maxLen ∧ (pick i).1.hides.length ≤ maxLen ∧ ∀ s ∈ (pick i).1.names, s.size ≤ maxLen) ∧ (pick i).1.names.length ≤ maxLen) ∧
        w.cell? (a.add (i * 4 + 0)) = some (.bool (pick i).1.is) ∧ w.cell? (a.add (i * 4 + 1)) = some (.string (pick i).1.rem) ∧ w.cell? (a.add (i * 4 + 2)) = some (pick i).2.1 ∧ w.cell? (a.add (i * 4 + 3)) = some (pick i).2.2 := by
      intro i hi
      simp only [pick, dif_pos hi]
      exact (each i hi).choose_spec.choose_spec.choose_spec
    refine ⟨(List.range len).map fun i => (pick i).1, ⟨some a, cap, by simp, fun hn => ?_⟩, by simp; omega, fun e he => ?_⟩
    · have hn' : 0 < len := by simpa using hn
      obtain ⟨b, off, s⟩ := a
      obtain rfl := spot_none (hp 0 (by omega)).2.2.2.1
      refine ⟨b, off, rfl, World.block_lt_of_cell? w _ (by simpa [Addr.add] using (hp 0 (by omega)).2.2.2.1), fun k e he => ?_⟩
      obtain ⟨hk, he⟩ := List.getElem?_eq_some_iff.1 he
      have hk' : k < len := by simpa using hk
      obtain ⟨h1, h1', _, h2, h3, h4, h5⟩ := hp k (by omega)
      have e' : e = (pick k).1 := by rw [← he]; simp
      subst e'
      have hadd : ∀ j, (⟨b, off, none⟩ : Addr).add j = ⟨b, off + j, none⟩ := fun j => by unfold Addr.add; split <;> simp_all
      rw [hadd] at h2 h3 h4 h5
      exact ⟨_, _, h1, h1', h2, h3, h4, h5⟩
    · simp only [List.mem_map, List.mem_range] at he
      obtain ⟨i, hi, rfl⟩ := he
      exact (hp i (by omega)).2.2.1
end
end Go.Proofs.YtadehfoamdkcmaaDoor
