/- Steps of package jsonnet in memory; the contract of impl.chain. -/
import Derived.Test.YtadehfoamdkcmaaDoorFdA
namespace Go.Proofs.YtadehfoamdkcmaaDoor
open Go.RowKit

theorem heap_cell {w : World} {g : Nat} {C : Array Value} {T : TypeId} {fr : Nat × Nat} (h : w.heap[g]? = some (.cells C T fr)) (j : Nat) : w.cell? ⟨g, j, none⟩ = C[j]? := by
  unfold World.cell?; rw [h]; rfl
theorem heap_free {w : World} {g : Nat} {C : Array Value} {T : TypeId} (h : w.heap[g]? = some (.cells C T (0, 0))) (j : Nat) : w.frozen? ⟨g, j, none⟩ = false := by
  unfold World.frozen?; rw [h]; simp
theorem heap_set {w : World} {g : Nat} {C : Array Value} {T : TypeId} {fr : Nat × Nat} (h : w.heap[g]? = some (.cells C T fr)) (k : Nat) (v : Value) : (w.setCell ⟨g, k, none⟩ v).heap[g]? = some (.cells (C.setIfInBounds k v) T fr) := by
  unfold World.setCell
  rw [Array.getElem?_modify, if_pos rfl, h]
  simp
theorem heap_set_other {w : World} {g b : Nat} (h : b ≠ g) (k : Nat) (v : Value) : (w.setCell ⟨g, k, none⟩ v).heap[b]? = w.heap[b]? := by
  unfold World.setCell
  rw [Array.getElem?_modify, if_neg (Ne.symm h)]
theorem heap_after {w : World} {g : Nat} {x : Obj} (h : w.heap[g]? = some x) (o : Obj) : (w.alloc o).heap[g]? = some x :=
  (((Below.refl w.heap.size w).alloc (Nat.le_refl _) o).block _ (Array.getElem?_eq_some_iff.1 h).1).trans h

theorem cs_info : (Tryd.prog.info? 49).map (fun i => (i.zero, i.size, i.bytes)) = some (some (.agg #[.string ⟨#[]⟩, .slice none 0 0, .slice none 0 0, .bool false]), 4, 72) := by kernel_rfl
theorem int_info : (Tryd.prog.info? 3).map (fun i => (i.zero, i.size, i.bytes)) = some (some (.int .i64 0), 1, 8) := by kernel_rfl

/-- A row of four cells each. -/
structure C4 where
  rem : ByteArray
  nv : Value
  hv : Value
def c4 (p : C4) : List Value := [.string p.rem, p.nv, p.hv, .bool false]
def flat4 (L : List C4) : List Value := L.flatMap c4
theorem flat4_len (L : List C4) : (flat4 L).length = L.length * 4 := by
  induction L with
  | nil => rfl
  | cons p L ih => simp only [flat4, List.flatMap_cons, List.length_append, List.length_cons, c4, List.length_nil] at ih ⊢; omega
theorem flat4_snoc (L : List C4) (p : C4) : flat4 (L ++ [p]) = flat4 L ++ c4 p := by simp [flat4]
theorem flat4_at : ∀ (L : List C4) (j : Nat) (p : C4), L[j]? = some p → ∀ i, i < 4 → (flat4 L)[j * 4 + i]? = (c4 p)[i]?
  | [], j, p, h => by simp at h
  | q :: L, 0, p, h => by
    simp at h; subst h
    intro i hi
    rw [show flat4 (q :: L) = c4 q ++ flat4 L by simp [flat4], List.getElem?_append_left (by simp [c4]; omega)]
    congr 1; omega
  | q :: L, j + 1, p, h => by
    intro i hi
    have h' : L[j]? = some p := by simpa using h
    have := flat4_at L j p h' i hi
    rw [show flat4 (q :: L) = c4 q ++ flat4 L by simp [flat4], List.getElem?_append_right (by simp [c4]; omega), ← this]
    congr 1
    simp only [c4, List.length_cons, List.length_nil]
    omega

/-- Each step's names lie below B; its hides in a row of the call's own, from base on. -/
def CsL (w : World) (B : Nat) (es : List St) (L : List C4) : Prop :=
  L.length = es.length ∧ ∀ (j : Nat) (s : St) (p : C4), es[j]? = some s → L[j]? = some p → RowV w B p.nv (strs s.names) ∧ ∃ hs : List Int, hs.length = s.names.length ∧ w.ownsRow B 3 1 p.hv hs.length (ints hs)
theorem CsL.nil (w : World) (B : Nat) (es : List St) : CsL w B (es.take 0) [] := ⟨rfl, fun j s p h => by simp at h⟩
theorem grown_of_below {w w' : World} (h : Below w.heap.size w w') : w.grownBy w' none := ⟨h.os, h.tape, h.output, h.size, fun k hk _ => h.block k hk⟩
theorem CsL.grown {w w' : World} {B : Nat} {es : List St} {L : List C4} (h : CsL w B es L) (hB : B ≤ w.heap.size) {row : Option Nat} (hg : w.grownBy w' row) (hr : ∀ k, row = some k → B ≤ k)
    (hne : ∀ p ∈ L, p.hv.ownBlock = none ∨ p.hv.ownBlock ≠ row) : CsL w' B es L := by
  refine ⟨h.1, fun j s p hs hp => ?_⟩
  obtain ⟨h1, hs', hl, h2⟩ := h.2 j s p hs hp
  refine ⟨h1.keep fun b o hb => ?_, hs', hl, h2.kept hg (hne p (List.mem_of_getElem? hp))⟩
  have hbe : Below B w w' := (Below.refl B w).grown hg hB hr
  exact hbe.cell (p := ⟨b, o, none⟩) hb
theorem CsL.below {w w' : World} {B : Nat} {es : List St} {L : List C4} (h : CsL w B es L) (hB : B ≤ w.heap.size) (hb : Below w.heap.size w w') : CsL w' B es L :=
  h.grown hB (grown_of_below hb) (fun k hk => by cases hk) (fun p _ => by cases p.hv.ownBlock <;> simp)
theorem CsL.step {w : World} {B k : Nat} {es : List St} {L : List C4} (h : CsL w B (es.take k) L) {s : St} (hs : es[k]? = some s) {p : C4} (hn : RowV w B p.nv (strs s.names)) {hs' : List Int} (hl : hs'.length = s.names.length)
    (ho : w.ownsRow B 3 1 p.hv hs'.length (ints hs')) : CsL w B (es.take (k + 1)) (L ++ [p]) := by
  have hk := (List.getElem?_eq_some_iff.1 hs).1
  have hL : L.length = k := by have := h.1; simp at this; omega
  refine ⟨by simp; omega, fun j s' p' hs1 hp1 => ?_⟩
  rcases Nat.lt_or_ge j k with hj | hj
  · rw [List.getElem?_append_left (by omega)] at hp1
    rw [List.getElem?_take_of_lt (by omega)] at hs1
    exact h.2 j s' p' (by rw [List.getElem?_take_of_lt hj]; exact hs1) hp1
  · have hjk : j = k := by
      have := (List.getElem?_eq_some_iff.1 hp1).1
      simp at this
      omega
    subst hjk
    rw [List.getElem?_append_right (by omega), hL, Nat.sub_self] at hp1
    simp at hp1
    subst hp1
    rw [List.getElem?_take_of_lt (by omega), hs] at hs1
    injection hs1 with hs1
    subst hs1
    exact ⟨hn, hs', hl, ho⟩

theorem own_apart {w : World} {b1 b2 : Nat} {e1 e2 : TypeId} {s1 s2 n1 n2 : Nat} {v1 v2 : Value} {x1 x2 : List Value} (h1 : w.ownsRow b1 e1 s1 v1 n1 x1) (h2 : w.ownsRow b2 e2 s2 v2 n2 x2) (hne : e1 ≠ e2) :
    v1.ownBlock = none ∨ v1.ownBlock ≠ v2.ownBlock := by
  rcases h1.2 with ⟨rfl, _⟩ | ⟨g, cap, cur, rfl, _, hg, _⟩
  · exact .inl rfl
  · right
    rcases h2.2 with ⟨rfl, _⟩ | ⟨g', cap', cur', rfl, _, hg', _⟩
    · simp [Value.ownBlock]
    · intro he
      have e : g = g' := by simpa [Value.ownBlock] using he
      subst e
      rw [hg] at hg'
      injection hg' with hg'
      injection hg' with _ ht
      exact hne ht

/-- The list of steps, below block B. -/
def CsV (w : World) (B : Nat) (v : Value) (es : List (List ByteArray)) : Prop :=
  ∃ A c, v = .slice A es.length c ∧ (0 < es.length → ∃ b off, A = some ⟨b, off, none⟩ ∧ b < B ∧ ∀ k ns, es[k]? = some ns → ∃ nv hv r, RowV w B nv (strs ns) ∧ (∃ hs : List Int, hs.length = ns.length ∧ RowV w B hv (ints hs)) ∧
    w.cell? ⟨b, off + k * 4, none⟩ = some (.string r) ∧ w.cell? ⟨b, off + k * 4 + 1, none⟩ = some nv ∧
    w.cell? ⟨b, off + k * 4 + 2, none⟩ = some hv ∧ w.cell? ⟨b, off + k * 4 + 3, none⟩ = some (.bool false))
theorem CsV.below {w w' : World} {B B' : Nat} {v : Value} {es : List (List ByteArray)} (h : CsV w B v es) (hb : Below B' w w') (hB : B ≤ B') : CsV w' B v es := by
  obtain ⟨A, c, hv, h⟩ := h
  refine ⟨A, c, hv, fun hn => ?_⟩
  obtain ⟨b, off, hA, hbB, hc⟩ := h hn
  have hk : ∀ b o, b < B → w'.cell? ⟨b, o, none⟩ = w.cell? ⟨b, o, none⟩ := fun b o h => hb.cell (p := ⟨b, o, none⟩) (Nat.lt_of_lt_of_le h hB)
  refine ⟨b, off, hA, hbB, fun k e he => ?_⟩
  obtain ⟨nv, hv, r, h0, ⟨hs, hl, h0'⟩, h1, h2, h3, h4⟩ := hc k e he
  exact ⟨nv, hv, r, h0.keep hk, ⟨hs, hl, h0'.keep hk⟩, (hk _ _ hbB).trans h1, (hk _ _ hbB).trans h2, (hk _ _ hbB).trans h3, (hk _ _ hbB).trans h4⟩
theorem CsV.more {w : World} {B B' : Nat} {v : Value} {es : List (List ByteArray)} (h : CsV w B v es) (hB : B ≤ B') : CsV w B' v es := by
  obtain ⟨A, c, hv, h⟩ := h
  refine ⟨A, c, hv, fun hn => ?_⟩
  obtain ⟨b, off, hA, hbB, hc⟩ := h hn
  refine ⟨b, off, hA, by omega, fun k e he => ?_⟩
  obtain ⟨nv, hv, r, h0, ⟨hs, hl, h0'⟩, h1⟩ := hc k e he
  exact ⟨nv, hv, r, h0.more hB, ⟨hs, hl, h0'.more hB⟩, h1⟩
theorem CsV.now {w w' : World} {v : Value} {es : List (List ByteArray)} (h : CsV w w.heap.size v es) (hb : Below w.heap.size w w') : CsV w' w'.heap.size v es := (h.below hb (Nat.le_refl _)).more hb.size
theorem CsV.form {w : World} {B : Nat} {v : Value} {es : List (List ByteArray)} (h : CsV w B v es) : ∃ A c, v = .slice A es.length c := by
  obtain ⟨A, c, rfl, _⟩ := h
  exact ⟨A, c, rfl⟩
theorem CsV.at_ {w : World} {B : Nat} {A : Option Addr} {n c : Nat} {es : List (List ByteArray)} (h : CsV w B (.slice A n c) es) {k : Nat} (hk : k < es.length) :
    ∃ b off An cn Ah ch r hs, A = some ⟨b, off, none⟩ ∧ b < B ∧ RowV w B (.slice An (es[k]'hk).length cn) (strs (es[k]'hk)) ∧ hs.length = (es[k]'hk).length ∧ RowV w B (.slice Ah (es[k]'hk).length ch) (ints hs) ∧
      w.cell? ⟨b, off + k * 4, none⟩ = some (.string r) ∧ w.cell? ⟨b, off + k * 4 + 1, none⟩ = some (.slice An (es[k]'hk).length cn) ∧
      w.cell? ⟨b, off + k * 4 + 2, none⟩ = some (.slice Ah (es[k]'hk).length ch) ∧ w.cell? ⟨b, off + k * 4 + 3, none⟩ = some (.bool false) := by
  obtain ⟨A', c', hv, h⟩ := h
  obtain ⟨b, off, hA, hb, hc⟩ := h (by omega)
  obtain ⟨nv, hhv, r, hcn, ⟨hs, hl, hch⟩, c0, c1, c2, c3⟩ := hc k _ (List.getElem?_eq_getElem hk)
  obtain ⟨An, cn, rfl⟩ := hcn.form
  obtain ⟨Ah, ch, rfl⟩ := hch.formI
  injection hv with h1
  rw [hl] at hch c2
  exact ⟨b, off, An, cn, Ah, ch, r, hs, h1.trans hA, hb, hcn, hl, hch, c0, c1, c2, c3⟩

theorem own_csV {w : World} {B : Nat} {v : Value} {es : List St} {L : List C4} (hB : B ≤ w.heap.size) (h : w.ownsRow B 49 4 v L.length (flat4 L)) (hc : CsL w B es L) : CsV w w.heap.size v (es.map St.names) := by
  obtain ⟨A, c, rfl⟩ := own_form h
  refine ⟨A, c, by rw [List.length_map, hc.1], fun hn => ?_⟩
  have hlen := hc.1
  rcases h.2 with ⟨hv, h0⟩ | ⟨g, cap, cur, hv, hb, hg, _⟩
  · simp at hn; omega
  · injection hv with h1 h2 h3
    subst h1
    refine ⟨g, 0, rfl, (Array.getElem?_eq_some_iff.1 hg).1, fun j ns hj => ?_⟩
    rw [List.getElem?_map] at hj
    obtain ⟨s, hs, rfl⟩ := Option.map_eq_some_iff.1 hj
    have hjl : j < L.length := by have := (List.getElem?_eq_some_iff.1 hs).1; omega
    obtain ⟨k1, hs', hl, k2⟩ := hc.2 j s _ hs (List.getElem?_eq_getElem hjl)
    have hf := flat4_at L j _ (List.getElem?_eq_getElem hjl)
    have e : ∀ i, i < 4 → ∀ u, (c4 L[j])[i]? = some u → w.cell? ⟨g, 0 + j * 4 + i, none⟩ = some u := fun i hi u hu => by
      have := h.cells (g := g) rfl _ _ ((hf i hi).trans hu)
      rw [add_plain'] at this
      rw [Nat.add_assoc]
      exact this
    obtain ⟨Ah, ch, hfm⟩ := own_form k2
    rw [hfm] at k2
    exact ⟨_, _, _, k1.more hB, ⟨hs', hl, hfm ▸ own_rowV k2⟩, e 0 (by omega) _ rfl, e 1 (by omega) _ rfl, e 2 (by omega) _ rfl, e 3 (by omega) _ rfl⟩
end Go.Proofs.YtadehfoamdkcmaaDoor
