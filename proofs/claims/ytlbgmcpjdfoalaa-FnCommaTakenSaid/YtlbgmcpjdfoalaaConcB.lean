/- ast.FodderAppend, where no paragraph comes behind a comment within a line: the fodder that it leaves. -/
import Derived.Test.YtlbgmcpjdfoalaaConcA
namespace Go.Proofs.Ytlbgmcpjdfoalaa
open Go.RowKit

/-- Nothing that was there has turned but block g and one row. -/
structure Only (w w' : World) (g : Nat) (row : Option Nat) : Prop where
  os : w'.os = w.os
  tape : w'.tape = w.tape
  output : w'.output = w.output
  size : w.heap.size ≤ w'.heap.size
  block : ∀ k, k < w.heap.size → k ≠ g → some k ≠ row → w'.heap[k]? = w.heap[k]?

theorem Only.below {w w' : World} {g B : Nat} {row : Option Nat} (h : Only w w' g row) (hB : B ≤ w.heap.size) (hg : B ≤ g) (hr : ∀ k, row = some k → B ≤ k) : Below B w w' :=
  ⟨h.os, h.tape, h.output, h.size, fun k hk => h.block k (by omega) (by omega) (fun e => by have := hr k e.symm; omega)⟩
theorem Only.trans {w w1 w2 : World} {g : Nat} {r1 r2 : Option Nat} (h : Only w w1 g r1) (k : Only w1 w2 g r2) (hr : r2 = r1 ∨ ∃ j, r2 = some j ∧ w.heap.size ≤ j) : Only w w2 g r1 :=
  ⟨k.os.trans h.os, k.tape.trans h.tape, k.output.trans h.output, Nat.le_trans h.size k.size, fun i hi hg hne => (k.block i (Nat.lt_of_lt_of_le hi h.size) hg (by
    rcases hr with rfl | ⟨j, rfl, hj⟩
    · exact hne
    · intro e; injection e; omega)).trans (h.block i hi hg hne)⟩
theorem Only.of_below {w w1 w2 : World} {g : Nat} {r : Option Nat} (h : Below w.heap.size w w1) (k : Only w1 w2 g r) : Only w w2 g r :=
  ⟨k.os.trans h.os, k.tape.trans h.tape, k.output.trans h.output, Nat.le_trans h.size k.size, fun i hi hg hne => (k.block i (Nat.lt_of_lt_of_le hi h.size) hg hne).trans (h.block i hi)⟩
theorem Only.of_grown {w w1 : World} {r : Option Nat} (h : w.grownBy w1 r) (g : Nat) : Only w w1 g r := ⟨h.os, h.tape, h.output, h.size, fun i hi _ hne => h.block i hi hne⟩
theorem Only.set {w w1 : World} {g : Nat} {r : Option Nat} (h : Only w w1 g r) (i : Nat) (u : Value) : Only w (w1.setCell ⟨g, i, none⟩ u) g r :=
  ⟨h.os, h.tape, h.output, by simpa using h.size, fun k hk hg hne => (Below.heap_setCell _ _ _ _ hg).trans (h.block k hk hg hne)⟩
theorem Only.setRow {w w1 : World} {g k : Nat} (h : Only w w1 g (some k)) (i : Nat) (u : Value) : Only w (w1.setCell ⟨k, i, none⟩ u) g (some k) :=
  ⟨h.os, h.tape, h.output, by simpa using h.size, fun j hj hg hne => (Below.heap_setCell _ _ _ _ (by simpa using hne)).trans (h.block j hj hg hne)⟩

theorem own_only {w w' : World} {g : Nat} {r : Option Nat} {base : Nat} {e : TypeId} {size n : Nat} {v : Value} {xs : List Value} (h : w.ownsRow base e size v n xs) (ho : Only w w' g r) {cs : Array Value} {t : TypeId} (hg : w.heap[g]? = some (.cells cs t (0, 0))) (hne : e ≠ t)
    (hr : v.ownBlock = none ∨ v.ownBlock ≠ r) : w'.ownsRow base e size v n xs := by
  refine ⟨h.1, h.2.imp id ?_⟩
  rintro ⟨q, cap, cur, rfl, hb, hq, rest⟩
  refine ⟨q, cap, cur, rfl, hb, ?_, rest⟩
  rw [ho.block q (Array.getElem?_eq_some_iff.1 hq).1 ?_ ?_]
  · exact hq
  · rintro rfl
    rw [hq] at hg
    injection hg with hg
    injection hg with _ ht
    exact hne ht
  · simpa [Value.ownBlock] using hr

/-- A list in rows of its own, kept where block g (of type Fodder) and another row of fodder have been written. -/
theorem LOwn.only {T : TypeId} {row : El → Value → List Value} {w w' : World} {base b2 g n : Nat} {v va : Value} {es : List El} {xs : List Value} (h : LOwn T row w base v es) (hva : w.ownsRow b2 58 4 va n xs) (ho : Only w w' g va.ownBlock) {cs : Array Value}
    (hg : w.heap[g]? = some (.cells cs 43 (0, 0))) (hT : T ≠ 43) (hv : v.ownBlock = none ∨ v.ownBlock ≠ va.ownBlock) : LOwn T row w' base v es := by
  obtain ⟨cvs, hl, hw, hc⟩ := h
  exact ⟨cvs, hl, own_only hw ho hg hT hv, fun p hp => own_only (hc p hp) ho hg (by decide) (own_apart (hc p hp) hva (by decide))⟩

/-- Only the comments' rows matter. -/
theorem str_only {w w' : World} {base b2 g n m : Nat} {v va : Value} {xs ys : List Value} (h : w.ownsRow base 9 1 v m ys) (hva : w.ownsRow b2 58 4 va n xs) (ho : Only w w' g va.ownBlock) {cs : Array Value}
    (hg : w.heap[g]? = some (.cells cs 43 (0, 0))) : w'.ownsRow base 9 1 v m ys :=
  own_only h ho hg (by decide) (own_apart h hva (by decide))

def lastMod (la : List El) (e : El) : List El :=
  match la.getLast? with
  | some x => la.dropLast ++ [{ x with indent := e.indent, blanks := wrap64 (x.blanks + e.blanks) }]
  | none => la
def appendF (la : List El) (e : El) : List El :=
  if cleanB la && e.kind == 0 then (if 0 < e.com.length then la ++ [⟨2, e.blanks, e.indent, e.com⟩] else lastMod la e) else la ++ [e]

/-- What FodderAppend leaves, of the fodder whose value lies in block g. -/
structure FAppW (g base : Nat) (va : Value) (la : List El) (w : World) (v' : Value) (w' : World) : Prop where
  blk : w'.heap[g]? = some (.cells #[v'] 43 (0, 0))
  own : LOwn 58 fRow w' base v' la
  only : Only w w' g va.ownBlock
  row : v'.ownBlock = va.ownBlock ∨ ∃ k, v'.ownBlock = some k ∧ w.heap.size ≤ k

/-- The last stage: one element is appended, the slice stored in block g. -/
theorem fapp_done {w W w2 : World} {g base n : Nat} {va : Value} {la : List El} {cvs : List Value} {e : El} {cv : Value} {A : Option Addr} {c : Nat} {cs : Array Value}
    (hbel : Below w.heap.size w W) (hg : w.heap[g]? = some (.cells #[va] 43 (0, 0))) (hn : la.length = n)
    (hcl : cvs.length = la.length) (hown : w.ownsRow base 58 4 va n (lrows fRow la cvs)) (hcs : ∀ p ∈ la.zip cvs, w.ownsRow base 9 1 p.2 p.1.com.length (strs p.1.com)) (hcv : w.ownsRow base 9 1 cv e.com.length (strs e.com))
    (hap : Appended (W.alloc (.cells cs 58)) base 58 4 va (n + 1) (lrows fRow la cvs ++ fRow e cv) A c w2) :
    FAppW g base va (la ++ [e]) w (.slice A (n + 1) c) (w2.setCell ⟨g, 0, none⟩ (.slice A (n + 1) c)) := by
  have hgl : g < w.heap.size := (Array.getElem?_eq_some_iff.1 hg).1
  have hbelX : Below w.heap.size w (W.alloc (.cells cs 58)) := hbel.alloc hbel.size _
  have hX := grown_of_below hbelX
  have hgX : (W.alloc (.cells cs 58)).heap[g]? = some (.cells #[va] 43 (0, 0)) := (hbelX.block g hgl).trans hg
  have hownX := hown.kept hX (by cases va.ownBlock <;> simp)
  have hne : some g ≠ va.ownBlock := by
    rcases hown.2 with ⟨rfl, _⟩ | ⟨q, cap, cur, rfl, _, hq, _⟩
    · simp [Value.ownBlock]
    · intro he
      have : g = q := by simpa [Value.ownBlock] using he
      subst this
      rw [hq] at hg
      injection hg with hg
      injection hg with _ ht
      exact absurd ht (by decide)
  have hg2 : w2.heap[g]? = some (.cells #[va] 43 (0, 0)) := (hap.grown.block g (Nat.lt_of_lt_of_le hgl hbelX.size) hne).trans hgX
  have hpush : LOwn 58 fRow w2 base (.slice A (n + 1) c) (la ++ [e]) :=
    lown_push (by decide) hcl hn hownX (fun p hp => (hcs p hp).kept hX (by cases p.2.ownBlock <;> simp)) (hcv.kept hX (by cases cv.ownBlock <;> simp)) hap.grown hap.own
  have hset : Only w2 (w2.setCell ⟨g, 0, none⟩ (.slice A (n + 1) c)) g none := Only.set ⟨rfl, rfl, rfl, Nat.le_refl _, fun _ _ _ _ => rfl⟩ 0 _
  obtain ⟨cvs2, l2, o2, c2⟩ := hpush
  refine ⟨?_, ⟨cvs2, l2, own_only o2 hset hg2 (by decide) (by cases (Value.slice A (n + 1) c).ownBlock <;> simp), fun p hp => own_only (c2 p hp) hset hg2 (by decide) (by cases p.2.ownBlock <;> simp)⟩, ?_, ?_⟩
  · simp [World.setCell, Array.getElem?_modify, hg2]
  · exact (Only.of_below hbelX (Only.of_grown hap.grown g)).set 0 _
  · rcases hap.block with h | h
    · exact .inl h
    · exact .inr ⟨_, h, hbelX.size⟩
end Go.Proofs.Ytlbgmcpjdfoalaa
