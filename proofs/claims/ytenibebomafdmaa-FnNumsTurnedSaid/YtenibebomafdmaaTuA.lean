/- Arrays of numbers of the package's in memory: rows of pointers to thunks, each with a number; rows of floats. -/
import Derived.Test.YtenibebomafdmaaNumK
import Derived.Test.YtenibebomafdmaaRow
namespace Go.Proofs.Ytenibebomafdmaa
open Go.RowKit

/-- A thunk that holds the number at block h; the number x. -/
def thO (h : Nat) : Obj := .cells #[.pointer none, .nilIface, .iface 119 (.pointer (some ⟨h, 0, none⟩)), .nilIface] 124
def nuO (x : Nat) : Obj := .cells #[.float .f64 x] 118

/-- A thunk, below block B, that holds the number x. -/
def ThV (w : World) (B : Nat) (t : Value) (x : Nat) : Prop :=
  ∃ g h, t = .pointer (some ⟨g, 0, none⟩) ∧ g < B ∧ h < B ∧ w.heap[g]? = some (thO h) ∧ w.heap[h]? = some (nuO x)
theorem ThV.keep {w w' : World} {B : Nat} {t : Value} {x : Nat} (h : ThV w B t x) (hk : ∀ b, b < B → w'.heap[b]? = w.heap[b]?) : ThV w' B t x := by
  obtain ⟨g, h, rfl, hg, hh, c1, c2⟩ := h
  exact ⟨g, h, rfl, hg, hh, (hk _ hg).trans c1, (hk _ hh).trans c2⟩
theorem ThV.more {w : World} {B B' : Nat} {t : Value} {x : Nat} (h : ThV w B t x) (hB : B ≤ B') : ThV w B' t x := by
  obtain ⟨g, h, rfl, hg, hh, c1, c2⟩ := h
  exact ⟨g, h, rfl, by omega, by omega, c1, c2⟩
/-- Kept when a row of pointers turns. -/
theorem ThV.kept {w w' : World} {B : Nat} {t : Value} {x : Nat} {base n : Nat} {v : Value} {us : List Value} (h : ThV w B t x) (ho : w.ownsRow base 116 1 v n us) (hg : w.grownBy w' v.ownBlock) : ThV w' B t x := by
  obtain ⟨g, h, rfl, hgB, hhB, c1, c2⟩ := h
  have key : ∀ (b : Nat) (o : Obj), w.heap[b]? = some o → (∃ C T, o = Obj.cells C T ∧ T ≠ 116) → w'.heap[b]? = some o := by
    rintro b o hb ⟨C, T, rfl, hT⟩
    refine (hg.block b (Array.getElem?_eq_some_iff.1 hb).1 ?_).trans hb
    intro he
    rcases ho.2 with ⟨rfl, _⟩ | ⟨g', cap, cur, rfl, _, hg', _⟩
    · simp [Value.ownBlock] at he
    · have e : b = g' := by simpa [Value.ownBlock] using he
      subst e
      rw [hb] at hg'
      injection hg' with hg'
      injection hg' with _ ht
      exact hT ht
  exact ⟨g, h, rfl, hgB, hhB, key _ _ c1 ⟨_, _, rfl, by decide⟩, key _ _ c2 ⟨_, _, rfl, by decide⟩⟩

/-- Thunks, one for each number of a list. -/
def ThsV (w : World) (B : Nat) (ts : List Value) (xs : List Nat) : Prop := ts.length = xs.length ∧ ∀ (k : Nat) (t : Value) (x : Nat), ts[k]? = some t → xs[k]? = some x → ThV w B t x
theorem ThsV.keep {w w' : World} {B : Nat} {ts : List Value} {xs : List Nat} (h : ThsV w B ts xs) (hk : ∀ b, b < B → w'.heap[b]? = w.heap[b]?) : ThsV w' B ts xs :=
  ⟨h.1, fun k t x h1 h2 => (h.2 k t x h1 h2).keep hk⟩
theorem ThsV.more {w : World} {B B' : Nat} {ts : List Value} {xs : List Nat} (h : ThsV w B ts xs) (hB : B ≤ B') : ThsV w B' ts xs :=
  ⟨h.1, fun k t x h1 h2 => (h.2 k t x h1 h2).more hB⟩
theorem ThsV.kept {w w' : World} {B : Nat} {ts : List Value} {xs : List Nat} {base n : Nat} {v : Value} {us : List Value} (h : ThsV w B ts xs) (ho : w.ownsRow base 116 1 v n us) (hg : w.grownBy w' v.ownBlock) : ThsV w' B ts xs :=
  ⟨h.1, fun k t x h1 h2 => (h.2 k t x h1 h2).kept ho hg⟩
theorem ThsV.below {w w' : World} {B B' : Nat} {ts : List Value} {xs : List Nat} (h : ThsV w B ts xs) (hb : Below B' w w') (hB : B ≤ B') : ThsV w' B ts xs :=
  h.keep fun b h => hb.block b (Nat.lt_of_lt_of_le h hB)
theorem ThsV.nil (w : World) (B : Nat) : ThsV w B [] [] := ⟨rfl, fun k t x h => by simp at h⟩
theorem ThsV.append {w : World} {B : Nat} {ts us : List Value} {xs ys : List Nat} (h1 : ThsV w B ts xs) (h2 : ThsV w B us ys) : ThsV w B (ts ++ us) (xs ++ ys) := by
  refine ⟨by simp [h1.1, h2.1], fun k t x ht hx => ?_⟩
  rcases Nat.lt_or_ge k ts.length with h | h
  · rw [List.getElem?_append_left h] at ht
    rw [List.getElem?_append_left (by rw [← h1.1]; exact h)] at hx
    exact h1.2 k t x ht hx
  · rw [List.getElem?_append_right h] at ht
    rw [List.getElem?_append_right (by rw [← h1.1]; exact h), ← h1.1] at hx
    exact h2.2 _ t x ht hx
theorem ThsV.one {w : World} {B : Nat} {t : Value} {x : Nat} (h : ThV w B t x) : ThsV w B [t] [x] := by
  refine ⟨rfl, fun k u y hu hy => ?_⟩
  rcases k with _ | k
  · simp at hu hy; subst hu hy; exact h
  · simp at hu
theorem ThsV.reverse {w : World} {B : Nat} {ts : List Value} {xs : List Nat} (h : ThsV w B ts xs) : ThsV w B ts.reverse xs.reverse := by
  refine ⟨by simp [h.1], fun k t x ht hx => ?_⟩
  have hk : k < ts.length := by have := (List.getElem?_eq_some_iff.1 ht).1; simpa using this
  rw [List.getElem?_reverse hk] at ht
  rw [List.getElem?_reverse (by rw [← h.1]; exact hk), ← h.1] at hx
  exact h.2 _ t x ht hx
theorem ThsV.get {w : World} {B : Nat} {ts : List Value} {xs : List Nat} (h : ThsV w B ts xs) {k : Nat} (hk : k < xs.length) : ∃ g j, ts[k]? = some (.pointer (some ⟨g, 0, none⟩)) ∧ g < B ∧ j < B ∧
    w.cell? ⟨g, 2, none⟩ = some (.iface 119 (.pointer (some ⟨j, 0, none⟩))) ∧ w.cell? ⟨j, 0, none⟩ = some (.float .f64 (xs[k]'hk)) := by
  have hk' : k < ts.length := by rw [h.1]; exact hk
  obtain ⟨g, j, ht, h1, h2, h3, h4⟩ := h.2 k _ _ (List.getElem?_eq_getElem hk') (List.getElem?_eq_getElem hk)
  refine ⟨g, j, by rw [List.getElem?_eq_getElem hk', ht], h1, h2, ?_, ?_⟩
  · unfold World.cell?; rw [h3]; rfl
  · unfold World.cell?; rw [h4]; rfl

/-- An array of the package's, below block B. -/
def ArrV (w : World) (B : Nat) (p : Value) (xs : List Nat) : Prop :=
  ∃ g A c ts, p = .pointer (some ⟨g, 0, none⟩) ∧ g < B ∧ w.cell? ⟨g, 0, none⟩ = some (.slice A xs.length c) ∧ RowV w B (.slice A xs.length c) ts ∧ ThsV w B ts xs
theorem ArrV.keep {w w' : World} {B : Nat} {p : Value} {xs : List Nat} (h : ArrV w B p xs) (hk : ∀ b, b < B → w'.heap[b]? = w.heap[b]?) : ArrV w' B p xs := by
  obtain ⟨g, A, c, ts, hp, hg, c0, hr, ht⟩ := h
  have hc : ∀ b o, b < B → w'.cell? ⟨b, o, none⟩ = w.cell? ⟨b, o, none⟩ := fun b o hb => World.cell?_of_block (w := w) (w' := w') (a := ⟨b, o, none⟩) (hk b hb)
  exact ⟨g, A, c, ts, hp, hg, (hc _ _ hg).trans c0, hr.keep hc, ht.keep hk⟩
theorem ArrV.below {w w' : World} {B B' : Nat} {p : Value} {xs : List Nat} (h : ArrV w B p xs) (hb : Below B' w w') (hB : B ≤ B') : ArrV w' B p xs :=
  h.keep fun b h => hb.block b (Nat.lt_of_lt_of_le h hB)
theorem ArrV.more {w : World} {B B' : Nat} {p : Value} {xs : List Nat} (h : ArrV w B p xs) (hB : B ≤ B') : ArrV w B' p xs := by
  obtain ⟨g, A, c, ts, hp, hg, c0, hr, ht⟩ := h
  exact ⟨g, A, c, ts, hp, by omega, c0, hr.more hB, ht.more hB⟩

/-- A row of floats. -/
def fls (xs : List Nat) : List Value := xs.map (Value.float .f64)
theorem fls_len (xs : List Nat) : (fls xs).length = xs.length := by simp [fls]
theorem fls_at {xs : List Nat} {k : Nat} (hk : k < xs.length) : (fls xs)[k]? = some (.float .f64 (xs[k]'hk)) := by simp [fls, hk]
theorem fls_one (xs : List Nat) : ∀ u ∈ fls xs, u.oneCell' = true := by
  intro u hu; simp only [fls, List.mem_map] at hu; obtain ⟨s, _, rfl⟩ := hu; rfl
theorem ths_one {w : World} {B : Nat} {ts : List Value} {xs : List Nat} (h : ThsV w B ts xs) : ∀ u ∈ ts, u.oneCell' = true := by
  intro u hu
  obtain ⟨k, hk⟩ := List.getElem?_of_mem hu
  have hl := (List.getElem?_eq_some_iff.1 hk).1
  obtain ⟨g, j, ht, _⟩ := h.get (k := k) (by rw [← h.1]; exact hl)
  rw [hk] at ht
  cases ht
  rfl
theorem heap_cell {w : World} {g : Nat} {C : Array Value} {T : TypeId} {fr : Nat × Nat} (h : w.heap[g]? = some (.cells C T fr)) (j : Nat) : w.cell? ⟨g, j, none⟩ = C[j]? := by
  unfold World.cell?; rw [h]; rfl

theorem heap_set {w : World} {g : Nat} {l : List Value} {T : TypeId} {fr : Nat × Nat} (h : w.heap[g]? = some (.cells l.toArray T fr)) (k : Nat) (v : Value) : (w.setCell ⟨g, k, none⟩ v).heap[g]? = some (.cells (l.set k v).toArray T fr) := by
  unfold World.setCell
  rw [Array.getElem?_modify, if_pos rfl, h]
  simp
theorem heap_free {w : World} {g : Nat} {C : Array Value} {T : TypeId} (h : w.heap[g]? = some (.cells C T (0, 0))) (j : Nat) : w.frozen? ⟨g, j, none⟩ = false := by
  unfold World.frozen?; rw [h]; simp
theorem heap_after {w : World} {g : Nat} {x : Obj} (h : w.heap[g]? = some x) (o : Obj) : (w.alloc o).heap[g]? = some x :=
  (((Below.refl w.heap.size w).alloc (Nat.le_refl _) o).block _ (Array.getElem?_eq_some_iff.1 h).1).trans h
theorem ThV.alloc {w : World} {B : Nat} {t : Value} {x : Nat} (h : ThV w B t x) (o : Obj) : ThV (w.alloc o) B t x := by
  obtain ⟨g, h, rfl, hg, hh, c1, c2⟩ := h
  exact ⟨g, h, rfl, hg, hh, heap_after c1 o, heap_after c2 o⟩
theorem ThsV.alloc {w : World} {B : Nat} {ts : List Value} {xs : List Nat} (h : ThsV w B ts xs) (o : Obj) : ThsV (w.alloc o) B ts xs := ⟨h.1, fun k t x h1 h2 => (h.2 k t x h1 h2).alloc o⟩
theorem ThV.mk_new (w : World) (x : Nat) : ThV ((w.alloc (nuO x)).alloc (thO w.heap.size)) (w.heap.size + 2) (.pointer (some ⟨w.heap.size + 1, 0, none⟩)) x := by
  refine ⟨w.heap.size + 1, w.heap.size, rfl, by omega, by omega, ?_, heap_after (heap_alloc_new w _) _⟩
  have := heap_alloc_new (w.alloc (nuO x)) (thO w.heap.size)
  rwa [World.size_alloc] at this

theorem thk_info : (Try.prog.info? 116).map (fun i => (i.zero, i.size, i.bytes)) = some (some (.pointer none), 1, 8) := by kernel_rfl
theorem flt_info : (Try.prog.info? 28).map (fun i => (i.zero, i.size, i.bytes)) = some (some (.float .f64 0), 1, 8) := by kernel_rfl

theorem ready_any (ty : TypeId) (p : Value) (w : World) : Calls Try.prog 71 #[.iface ty p] w fun e w' =>
    e = .returned (.pointer (some ⟨w.heap.size, 0, none⟩)) ∧ w' = w.alloc (.cells #[.pointer none, .nilIface, .iface ty p, .nilIface] 124) := by
  go_enter Try.func71, Try.ntmps71
  go_wp2
  go_ret
  exact ⟨rfl, rfl⟩
end Go.Proofs.Ytenibebomafdmaa
