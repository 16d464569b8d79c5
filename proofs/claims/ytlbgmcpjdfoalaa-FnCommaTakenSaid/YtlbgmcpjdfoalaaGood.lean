/- Small facts about good lists and own lists. -/
import Derived.Test.YtlbgmcpjdfoalaaFodB
namespace Go.Proofs.Ytlbgmcpjdfoalaa
open Go.RowKit

theorem LOwn.setCell {T : TypeId} {row : El → Value → List Value} {w : World} {base : Nat} {v : Value} {es : List El} (h : LOwn T row w base v es) {p : Addr} (hp : p.block < base) (u : Value) : LOwn T row (w.setCell p u) base v es := by
  obtain ⟨cvs, hl, ho, hc⟩ := h
  exact ⟨cvs, hl, ownsRow_setCell_below ho hp u, fun q hq => ownsRow_setCell_below (hc q hq) hp u⟩
theorem good_small {es : List El} (h : GoodEls es) : SmallEls es := ⟨by have := h.1; omega, fun e he => by have := (elemB_kind (h.2 e he)).2.2; omega⟩
theorem alloc_at (w : World) (o : Obj) : (w.alloc o).heap[w.heap.size]? = some o := by
  show (w.heap.push o)[w.heap.size]? = some o
  exact Array.getElem?_push_size
theorem alloc_old (w : World) (o : Obj) {k : Nat} (h : k < w.heap.size) : (w.alloc o).heap[k]? = w.heap[k]? := by
  simp only [World.alloc, Array.getElem?_push]
  rw [if_neg (by omega)]
end Go.Proofs.Ytlbgmcpjdfoalaa
