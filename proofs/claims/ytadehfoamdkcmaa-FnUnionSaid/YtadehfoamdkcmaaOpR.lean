/- How an argument that is a list of one-cell values (strings, integers, booleans, floats) is opened into the walk's words. Over whatever program. -/
import Derived.Test.YtadehfoamdkcmaaRow
import Derived.Deep.Slices
import Derived.Deep.Strs
namespace Go.Proofs.Ytadehfoamdkcmaa
open Go.RowKit Go.ChangeShapes Go.WideShapes Go.Deep

section
variable {H : Type} {P : Program} {enc : TypeId × Value → H} {w : World} {spare : Nat → Bool} {held : Bool}

theorem spot_none {W : World} {b off : Nat} {s : Option Nat} {v : Value} (h : W.cell? ((⟨b, off, s⟩ : Addr).add 0) = some v) : s = none := by
  simpa [Addr.add] using World.cell?_spot h

/-- A list of values of one cell each: each one is one that 'R' allows. -/
theorem open_rowR {t e : TypeId} (ht : P.underlying t = some (.slice e)) (hc : P.cellsOf e = 1) {α : Type} [Inhabited α] (mk : α → Value) (R : α → Prop)
    (each : ∀ (n : Nat) (v : Value) (x : DataW H × List MemPlace), DataW.trod enc P w 0 spare held n e [v] = some x → ∃ a, v = mk a ∧ R a)
    {fuel : Nat} {v : Value} {x : DataW H × List MemPlace} (h : DataW.trod enc P w 0 spare held fuel t [v] = some x) :
    ∃ xs : List α, RowV w w.heap.size v (xs.map mk) ∧ xs.length ≤ maxLen ∧ ∀ a ∈ xs, R a := by
  rcases open_slice1 ht hc h with ⟨hcs, _⟩ | ⟨a, len, cap, m, n, V, D, Pl, hcs, _, hlc, hcm, hm, _, hx⟩
  · injection hcs with hv
    subst hv
    exact ⟨[], RowV.nil _ _ _, by simp, by simp⟩
  · injection hcs with hv
    subst hv
    have hlm : len ≤ m := by rw [hm]; split <;> omega
    have each' : ∀ i, i < m → ∃ q, V i = mk q ∧ R q := fun i hi => each _ _ _ (hx i hi).2
    let pick : Nat → α := fun i => if hi : i < m then (each' i hi).choose else default
    have hp : ∀ i, i < m → V i = mk (pick i) ∧ R (pick i) := by
      intro i hi
      simp only [pick, dif_pos hi]
      exact (each' i hi).choose_spec
    refine ⟨(List.range len).map pick, ⟨some a, cap, by simp, fun hn => ?_⟩, by simp; omega, fun q hq => ?_⟩
    · have hn' : 0 < len := by simpa using hn
      obtain ⟨b, off, s⟩ := a
      obtain rfl := spot_none (hx 0 (by omega)).1
      refine ⟨b, off, rfl, World.block_lt_of_cell? w _ (by simpa [Addr.add] using (hx 0 (by omega)).1), fun j u hu => ?_⟩
      obtain ⟨hj, he⟩ := List.getElem?_eq_some_iff.1 hu
      have hj' : j < len := by simpa using hj
      have h1 := (hx j (by omega)).1
      rw [add_plain', (hp j (by omega)).1] at h1
      rw [h1, ← he]
      simp
    · simp only [List.mem_map, List.mem_range] at hq
      obtain ⟨i, hi, rfl⟩ := hq
      exact (hp i (by omega)).2

theorem trod_float {k : FloatKind} {t : TypeId} {fuel : Nat} {cs : List Value} {x : DataW H × List MemPlace} (ht : P.underlying t = some (.float k)) (h : DataW.trod enc P w 0 spare held fuel t cs = some x) : ∃ b, cs = [.float k b] ∧ (Lit.float k b).wf = true := by
  cases fuel with
  | zero => simp [DataW.trod] at h
  | succ n =>
    unfold DataW.trod at h
    rw [ht] at h
    split at h <;> simp_all

theorem each_float {e : TypeId} (he : P.underlying e = some (.float .f64)) : ∀ (n : Nat) (v : Value) (x : DataW H × List MemPlace), DataW.trod enc P w 0 spare held n e [v] = some x → ∃ a, v = .float .f64 a ∧ a < 18446744073709551616 := by
  intro n v x h
  obtain ⟨b, h1, h2⟩ := trod_float he h
  injection h1 with h1
  exact ⟨b, h1, by simpa [Lit.wf] using h2⟩
theorem each_string {e : TypeId} (he : P.underlying e = some .string) : ∀ (n : Nat) (v : Value) (x : DataW H × List MemPlace), DataW.trod enc P w 0 spare held n e [v] = some x → ∃ a : ByteArray, v = .string a ∧ a.size ≤ maxLen := by
  intro n v x h
  obtain ⟨s, h1, _, h2⟩ := DataW.trod_string he h
  injection h1 with h1
  exact ⟨s, h1, h2⟩
theorem each_bool {e : TypeId} (he : P.underlying e = some .bool) : ∀ (n : Nat) (v : Value) (x : DataW H × List MemPlace), DataW.trod enc P w 0 spare held n e [v] = some x → ∃ a, v = .bool a ∧ True := by
  intro n v x h
  obtain ⟨s, h1, _⟩ := DataW.trod_bool he h
  injection h1 with h1
  exact ⟨s, h1, trivial⟩
theorem each_int {k : IntKind} {e : TypeId} (he : P.underlying e = some (.int k)) : ∀ (n : Nat) (v : Value) (x : DataW H × List MemPlace), DataW.trod enc P w 0 spare held n e [v] = some x → ∃ a, v = .int k a ∧ (Lit.int k a).wf = true := by
  intro n v x h
  obtain ⟨s, h1, _, h2⟩ := DataW.trod_int he h
  injection h1 with h1
  exact ⟨s, h1, h2⟩
end
end Go.Proofs.Ytadehfoamdkcmaa
