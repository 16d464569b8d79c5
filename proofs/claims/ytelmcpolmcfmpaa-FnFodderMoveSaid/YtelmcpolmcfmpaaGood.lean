/- Small facts about good lists and own lists. -/
import Derived.Test.YtelmcpolmcfmpaaFodB
namespace Go.Proofs.Ytelmcpolmcfmpaa
open Go.RowKit

theorem LOwn.setCell {T : TypeId} {row : El → Value → List Value} {w : World} {base : Nat} {v : Value} {es : List El} (h : LOwn T row w base v es) {p : Addr} (hp : p.block < base) (u : Value) : LOwn T row (w.setCell p u) base v es := by
  obtain ⟨cvs, hl, ho, hc⟩ := h
  exact ⟨cvs, hl, ownsRow_setCell_below ho hp u, fun q hq => ownsRow_setCell_below (hc q hq) hp u⟩
theorem good_small {es : List El} (h : GoodEls es) : SmallEls es := ⟨by have := h.1; omega, fun e he => by have := (elemB_kind (h.2 e he)).2.2; omega⟩
end Go.Proofs.Ytelmcpolmcfmpaa
