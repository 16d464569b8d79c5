/- How an argument that is a list of strings, or of elements, is opened into the walk's words. -/
import Derived.Test.YtlbgmcpjdfoalaaElA
import Derived.Deep.Slices
import Derived.Deep.Strs
import Derived.Deep.Fields
namespace Go.Proofs.Ytlbgmcpjdfoalaa
open Go.RowKit Go.ChangeShapes Go.WideShapes Go.Deep

section
variable {H : Type} {enc : TypeId × Value → H} {w : World} {spare : Nat → Bool} {held : Bool}

theorem spot_none {P : World} {b off : Nat} {s : Option Nat} {v : Value} (h : P.cell? ((⟨b, off, s⟩ : Addr).add 0) = some v) : s = none := by
  simpa [Addr.add] using World.cell?_spot h

theorem open_rowS {fuel : Nat} {v : Value} {x : DataW H × List MemPlace} (h : DataW.trod enc Try.prog w 0 spare held fuel 30 [v] = some x) :
    ∃ ss, RowV w w.heap.size v (strs ss) ∧ ss.length ≤ maxLen ∧ ∀ s ∈ ss, s.size ≤ maxLen := by
  rcases open_strs Try.underlying30 Try.underlying9 (by kernel_rfl) h with ⟨hcs, _⟩ | ⟨a, len, cap, m, Sx, hcs, _, hlc, hcm, hm, _, hc⟩
  · injection hcs with hv
    subst hv
    exact ⟨[], ⟨none, 0, rfl, fun h => absurd h (by simp [strs])⟩, by simp, by simp⟩
  · injection hcs with hv
    subst hv
    have hlm : len ≤ m := by rw [hm]; split <;> omega
    refine ⟨(List.range len).map Sx, ⟨some a, cap, by simp [strs], fun hn => ?_⟩, by simp; omega, fun s hs => ?_⟩
    · have hn' : 0 < len := by simpa [strs] using hn
      obtain ⟨b, off, s⟩ := a
      obtain rfl := spot_none (hc 0 (by omega)).1
      refine ⟨b, off, rfl, World.block_lt_of_cell? w _ (by simpa [Addr.add] using (hc 0 (by omega)).1), fun j u hu => ?_⟩
      simp only [strs, List.map_map] at hu
      obtain ⟨hj, he⟩ := List.getElem?_eq_some_iff.1 hu
      have hj' : j < len := by simpa using hj
      have := (hc j (by omega)).1
      have hadd : (⟨b, off, none⟩ : Addr).add j = ⟨b, off + j, none⟩ := by unfold Addr.add; split <;> simp_all
      rw [hadd] at this
      rw [this, ← he]
      simp
    · simp only [List.mem_map, List.mem_range] at hs
      obtain ⟨i, hi, rfl⟩ := hs
      exact (hc i (by omega)).2

set_option maxRecDepth 100000 in
theorem open_elsV {fuel : Nat} {v : Value} {x : DataW H × List MemPlace} (h : DataW.trod enc Try.prog w 0 spare held fuel 22 [v] = some x) :
    ∃ es, ElsV w w.heap.size v es ∧ es.length ≤ maxLen ∧ ∀ e ∈ es, e.com.length ≤ maxLen := by
  rcases open_slice Try.underlying22 h with ⟨hcs, _⟩ | ⟨a, len, cap, m, n, D, Pl, hcs, _, hlc, hcm, hm, _, hx⟩
  · injection hcs with hv
    subst hv
    exact ⟨[], ⟨none, 0, rfl, fun h => absurd h (by simp)⟩, by simp, by simp⟩
  · injection hcs with hv
    subst hv
    have hlm : len ≤ m := by rw [hm]; split <;> omega
    have hC : Try.prog.cellsOf 39 = 4 := by kernel_rfl
    rw [hC] at hx
    have each : ∀ i, i < m → ∃ (e : El) (cv : Value), RowV w w.heap.size cv (strs e.com) ∧ e.com.length ≤ maxLen ∧
        w.cell? (a.add (i * 4 + 0)) = some (.int .i64 e.kind) ∧ w.cell? (a.add (i * 4 + 1)) = some (.int .i64 e.blanks) ∧ w.cell? (a.add (i * 4 + 2)) = some (.int .i64 e.indent) ∧ w.cell? (a.add (i * 4 + 3)) = some cv := by
      intro i hi
      obtain ⟨cs', hc, ht⟩ := hx i hi
      obtain ⟨_, hcl, hat⟩ := World.cells?_some hc
      obtain ⟨ys, n', _, _, _, hyl, hf⟩ := DataW.trod_struct Try.underlying39 ht
      match cs', hcl, ys, hyl with
      | [q0, q1, q2, q3], _, [y0, y1, y2, y3], _ =>
        have f0 := hf 0 _ rfl
        have f1 := hf 1 _ rfl
        have f2 := hf 2 _ rfl
        have f3 := hf 3 _ rfl
        simp only [List.getElem?_cons_zero, List.getElem?_cons_succ] at f0 f1 f2 f3
        obtain ⟨n0, e0, _, _⟩ := DataW.trod_int Try.underlying3 f0
        obtain ⟨n1, e1, _, _⟩ := DataW.trod_int Try.underlying3 f1
        obtain ⟨n2, e2, _, _⟩ := DataW.trod_int Try.underlying3 f2
        obtain ⟨ss, hr, hs, _⟩ := open_rowS f3
        injection e0 with e0
        injection e1 with e1
        injection e2 with e2
        subst e0 e1 e2
        have g0 := hat 0 (by omega)
        have g1 := hat 1 (by omega)
        have g2 := hat 2 (by omega)
        have g3 := hat 3 (by omega)
        rw [Go.Deep.add_add] at g0 g1 g2 g3
        exact ⟨⟨n0, n1, n2, ss⟩, q3, hr, hs, g0, g1, g2, g3⟩
    let pick : Nat → El × Value := fun i => if hi : i < m then ⟨(each i hi).choose, (each i hi).choose_spec.choose⟩ else ⟨⟨0, 0, 0, []⟩, .nilIface⟩
    have hp : ∀ i, i < m → RowV w w.heap.size (pick i).2 (strs (pick i).1.com) ∧ (pick i).1.com.length ≤ maxLen ∧
        w.cell? (a.add (i * 4 + 0)) = some (.int .i64 (pick i).1.kind) ∧ w.cell? (a.add (i * 4 + 1)) = some (.int .i64 (pick i).1.blanks) ∧ w.cell? (a.add (i * 4 + 2)) = some (.int .i64 (pick i).1.indent) ∧ w.cell? (a.add (i * 4 + 3)) = some (pick i).2 := by
      intro i hi
      simp only [pick, dif_pos hi]
      exact (each i hi).choose_spec.choose_spec
    refine ⟨(List.range len).map fun i => (pick i).1, ⟨some a, cap, by simp, fun hn => ?_⟩, by simp; omega, fun e he => ?_⟩
    · have hn' : 0 < len := by simpa using hn
      obtain ⟨b, off, s⟩ := a
      obtain rfl := spot_none (hp 0 (by omega)).2.2.1
      refine ⟨b, off, rfl, World.block_lt_of_cell? w _ (by simpa [Addr.add] using (hp 0 (by omega)).2.2.1), fun k e he => ?_⟩
      obtain ⟨hk, he⟩ := List.getElem?_eq_some_iff.1 he
      have hk' : k < len := by simpa using hk
      obtain ⟨h1, _, h2, h3, h4, h5⟩ := hp k (by omega)
      have e' : e = (pick k).1 := by rw [← he]; simp
      subst e'
      have hadd : ∀ j, (⟨b, off, none⟩ : Addr).add j = ⟨b, off + j, none⟩ := fun j => by unfold Addr.add; split <;> simp_all
      rw [hadd] at h2 h3 h4 h5
      exact ⟨_, h1, h2, h3, h4, h5⟩
    · simp only [List.mem_map, List.mem_range] at he
      obtain ⟨i, hi, rfl⟩ := he
      exact (hp i (by omega)).2.1
end
end Go.Proofs.Ytlbgmcpjdfoalaa
