/- Rows of one-cell values in memory: what reads as a list; append onto a row of the call's own. Plain laws, over whatever program. -/
import Derived.Test.YtadehfoamdkcmaaRows
import Derived.WalkKit
import Derived.WalkSpells
import Derived.WalkLawsBesides
import Derived.BigQuiet
import Derived.Deep.QuietTactic
import Derived.Deep.Draws
import Derived.Deep.RegionWith
import Derived.Deep.RegionHeld3
import Derived.BigGuardPart
import Derived.Lib.Hide
import Derived.Maps.AppendAt
import Derived.Deep.AppendLies
namespace Go.Proofs.Ytadehfoamdkcmaa
open Go.RowKit

def strs (l : List ByteArray) : List Value := l.map Value.string
theorem strs_len (l : List ByteArray) : (strs l).length = l.length := by simp [strs]

/-- A slice of one-cell values that lies below block B. -/
def RowV (w : World) (B : Nat) (v : Value) (xs : List Value) : Prop :=
  ∃ A c, v = .slice A xs.length c ∧ (0 < xs.length → ∃ b off, A = some ⟨b, off, none⟩ ∧ b < B ∧ ∀ j u, xs[j]? = some u → w.cell? ⟨b, off + j, none⟩ = some u)

theorem RowV.keep {w w' : World} {B : Nat} {v : Value} {xs : List Value} (h : RowV w B v xs) (hk : ∀ b o, b < B → w'.cell? ⟨b, o, none⟩ = w.cell? ⟨b, o, none⟩) : RowV w' B v xs := by
  obtain ⟨A, c, hv, h⟩ := h
  refine ⟨A, c, hv, fun hn => ?_⟩
  obtain ⟨b, off, hA, hb, hc⟩ := h hn
  exact ⟨b, off, hA, hb, fun j u hu => (hk _ _ hb).trans (hc j u hu)⟩
theorem RowV.below {w w' : World} {B B' : Nat} {v : Value} {xs : List Value} (h : RowV w B v xs) (hb : Below B' w w') (hB : B ≤ B') : RowV w' B v xs :=
  h.keep fun b o h => hb.cell (p := ⟨b, o, none⟩) (Nat.lt_of_lt_of_le h hB)
theorem RowV.more {w : World} {B B' : Nat} {v : Value} {xs : List Value} (h : RowV w B v xs) (hB : B ≤ B') : RowV w B' v xs := by
  obtain ⟨A, c, hv, h⟩ := h
  refine ⟨A, c, hv, fun hn => ?_⟩
  obtain ⟨b, off, hA, hb, hc⟩ := h hn
  exact ⟨b, off, hA, by omega, hc⟩

theorem RowV.form {w : World} {B : Nat} {v : Value} {ss : List ByteArray} (h : RowV w B v (strs ss)) : ∃ A c, v = .slice A ss.length c := by
  obtain ⟨A, c, rfl, _⟩ := h
  exact ⟨A, c, by rw [strs_len]⟩

theorem RowV.at_ {w : World} {B : Nat} {A : Option Addr} {n c : Nat} {ss : List ByteArray} (h : RowV w B (.slice A n c) (strs ss)) {k : Nat} (hk : k < ss.length) :
    ∃ b off, A = some ⟨b, off, none⟩ ∧ b < B ∧ w.cell? ⟨b, off + k, none⟩ = some (.string (ss[k]'hk)) := by
  obtain ⟨A', c', hv, h⟩ := h
  obtain ⟨b, off, hA, hb, hc⟩ := h (by rw [strs_len]; omega)
  injection hv with h1
  exact ⟨b, off, h1.trans hA, hb, hc k _ (by simp [strs, hk])⟩

theorem RowV.form' {w : World} {B : Nat} {v : Value} {xs : List Value} (h : RowV w B v xs) : ∃ A c, v = .slice A xs.length c := by
  obtain ⟨A, c, rfl, _⟩ := h
  exact ⟨A, c, rfl⟩
theorem RowV.get {w : World} {B : Nat} {A : Option Addr} {n c : Nat} {xs : List Value} (h : RowV w B (.slice A n c) xs) {k : Nat} {u : Value} (hk : xs[k]? = some u) :
    ∃ b off, A = some ⟨b, off, none⟩ ∧ b < B ∧ w.cell? ⟨b, off + k, none⟩ = some u := by
  obtain ⟨A', c', hv, h⟩ := h
  have hl := (List.getElem?_eq_some_iff.1 hk).1
  obtain ⟨b, off, hA, hb, hc⟩ := h (by omega)
  injection hv with h1
  exact ⟨b, off, h1.trans hA, hb, hc k _ hk⟩
theorem RowV.nil (w : World) (B c : Nat) : RowV w B (.slice none 0 c) [] := ⟨none, c, rfl, fun h => by simp at h⟩

theorem own_form {w : World} {base : Nat} {e : TypeId} {size : Nat} {v : Value} {n : Nat} {xs : List Value} (h : w.ownsRow base e size v n xs) : ∃ A c, v = .slice A n c := by
  rcases h.2 with ⟨rfl, rfl⟩ | ⟨g, cap, cur, rfl, _⟩
  · exact ⟨none, 0, rfl⟩
  · exact ⟨_, _, rfl⟩

theorem append_nothing {P : Program} (w : World) (base : Nat) (t ty e : TypeId) (i : TypeInfo) (size : Nat) (ht : P.underlying t = some (.slice e)) (hi : P.info? e = some i)
    (v : Value) (n : Nat) (xs : List Value) (hown : w.ownsRow base e size v n xs) (c : Nat) : (Builtin.append_ #[t, t] ty #[v, .slice none 0 c]).run P w = .ok v w := by
  rcases hown.2 with ⟨rfl, rfl⟩ | ⟨g, cap, cur, rfl, _, _, hnc, _⟩
  · simp [Builtin.append_, run_underlying ht, sizeOf, typeInfo, hi, Builtin.lenOf, Builtin.firstCells]
  · simp [Builtin.append_, run_underlying ht, sizeOf, typeInfo, hi, Builtin.lenOf, Builtin.firstCells, hnc, storeCells]

section
variable {P : Program} (w : World)

/-- What an append leaves. -/
structure Appended (w : World) (base : Nat) (e : TypeId) (size : Nat) (v : Value) (n : Nat) (xs : List Value) (A : Option Addr) (c : Nat) (w' : World) : Prop where
  own : w'.ownsRow base e size (.slice A n c) n xs
  grown : w.grownBy w' v.ownBlock
  block : (Value.slice A n c).ownBlock = v.ownBlock ∨ (Value.slice A n c).ownBlock = some w.heap.size

theorem run_append_rowV (base : Nat) (t ty e : TypeId) (i : TypeInfo) (z : Value) (size bytes : Nat) (ht : P.underlying t = some (.slice e)) (hi : P.info? e = some i) (hz : i.zero = some z)
    (hsize : i.size = size) (hby : i.bytes = bytes) (hzs : z.cells.size = size) (hsz : 0 < size)
    (v : Value) (n : Nat) (xs : List Value) (hown : w.ownsRow base e size v n xs)
    (A : Option Addr) (m c : Nat) (news : List Value) (hl : news.length = m * size) (hn0 : 0 < m → ∃ ad, A = some ad ∧ ∀ j u, news[j]? = some u → w.cell? (ad.add j) = some u) (h1 : ∀ u ∈ news, u.oneCell' = true)
    (h63 : n + m ≤ maxLen) (hbytes : (n + m) * bytes ≤ 140737488355328) (hbase : base ≤ w.heap.size) :
    ∃ A' c' w', (Builtin.append_ #[t, t] ty #[v, .slice A m c]).run P w = .ok (.slice A' (n + m) c') w' ∧ Appended w base e size v (n + m) (xs ++ news) A' c' w' := by
  rcases Nat.eq_zero_or_pos m with rfl | hm
  · have hn : news = [] := List.eq_nil_of_length_eq_zero (by simpa using hl)
    subst hn
    rcases A with _ | ad
    · obtain ⟨A, c', rfl⟩ := own_form hown
      exact ⟨A, c', w, append_nothing w base t ty e i size ht hi _ n xs hown c, ⟨by simpa using hown, ⟨rfl, rfl, rfl, Nat.le_refl _, fun _ _ _ => rfl⟩, .inl rfl⟩⟩
    · obtain ⟨v', w', hr, h2, h3, _, h5⟩ := run_append_own_at (P := P) w base t ty e i z size bytes ht hi hz hsize hby hzs hsz v n xs hown ad 0 c [] hl (by simp) h1 h63 hbytes hbase
      obtain ⟨A', c', rfl⟩ := own_form h2
      exact ⟨A', c', w', hr, ⟨h2, h3, h5⟩⟩
  · obtain ⟨ad, rfl, hc⟩ := hn0 hm
    obtain ⟨v', w', hr, h2, h3, _, h5⟩ := run_append_own_at (P := P) w base t ty e i z size bytes ht hi hz hsize hby hzs hsz v n xs hown ad m c news hl hc h1 h63 hbytes hbase
    obtain ⟨A', c', rfl⟩ := own_form h2
    exact ⟨A', c', w', hr, ⟨h2, h3, h5⟩⟩

theorem wp_append_rowV {o : Oper} {a : Act} {K : Act → World → Prop} {Q : Exit → Act → World → Prop} (s x : Operand) (t : TypeId)
    (ho : o.op = .call { callee := .builtin .append, args := #[s, x], argTypes := #[t, t] })
    (base : Nat) (e : TypeId) (i : TypeInfo) (z : Value) (size bytes : Nat) (ht : P.underlying t = some (.slice e)) (hi : P.info? e = some i) (hz : i.zero = some z)
    (hsize : i.size = size) (hby : i.bytes = bytes) (hzs : z.cells.size = size) (hsz : 0 < size)
    (v : Value) (n : Nat) (xs : List Value) (hs : a.eval s = v) (hown : w.ownsRow base e size v n xs)
    (A : Option Addr) (m c : Nat) (news : List Value) (hx : a.eval x = .slice A m c) (hl : news.length = m * size) (hn0 : 0 < m → ∃ ad, A = some ad ∧ ∀ j u, news[j]? = some u → w.cell? (ad.add j) = some u) (h1 : ∀ u ∈ news, u.oneCell' = true)
    (h63 : n + m ≤ maxLen) (hbytes : (n + m) * bytes ≤ 140737488355328) (hbase : base ≤ w.heap.size)
    (h : ∀ A' c' w', Appended w base e size v (n + m) (xs ++ news) A' c' w' → K (a.put o.dst (.slice A' (n + m) c')) w') : o.wp P a w K Q := by
  obtain ⟨A', c', w', hrun, hap⟩ := run_append_rowV (P := P) w base t o.type e i z size bytes ht hi hz hsize hby hzs hsz v n xs hown A m c news hl hn0 h1 h63 hbytes hbase
  unfold Oper.wp execOp
  simp only [ho, resolve, invoke, builtin, Sem.run_bind, Sem.run_pure, Result.andThen_ok, List.map_toArray, List.map_cons, List.map_nil, hs, hx, hrun]
  exact h A' c' w' hap

theorem wpList_append_rowV {ops : Array Oper} {rest : List Oper} {o : Oper} {a : Act} {Q : Exit → Act → World → Prop} (hgd : o.guard = none) (s x : Operand) (t : TypeId)
    (ho : o.op = .call { callee := .builtin .append, args := #[s, x], argTypes := #[t, t] })
    (base : Nat) (e : TypeId) (i : TypeInfo) (z : Value) (size bytes : Nat) (ht : P.underlying t = some (.slice e)) (hi : P.info? e = some i) (hz : i.zero = some z)
    (hsize : i.size = size) (hby : i.bytes = bytes) (hzs : z.cells.size = size) (hsz : 0 < size)
    (v : Value) (n : Nat) (xs : List Value) (hs : a.eval s = v) (hown : w.ownsRow base e size v n xs)
    (A : Option Addr) (m c : Nat) (news : List Value) (hx : a.eval x = .slice A m c) (hl : news.length = m * size) (hn0 : 0 < m → ∃ ad, A = some ad ∧ ∀ j u, news[j]? = some u → w.cell? (ad.add j) = some u) (h1 : ∀ u ∈ news, u.oneCell' = true)
    (h63 : n + m ≤ maxLen) (hbytes : (n + m) * bytes ≤ 140737488355328) (hbase : base ≤ w.heap.size)
    (h : ∀ A' c' w', Appended w base e size v (n + m) (xs ++ news) A' c' w' → wpList P ops Q rest (a.put o.dst (.slice A' (n + m) c')) w') : wpList P ops Q (o :: rest) a w :=
  wpList_plain hgd fun _ hK => wp_append_rowV w s x t ho base e i z size bytes ht hi hz hsize hby hzs hsz v n xs hs hown A m c news hx hl hn0 h1 h63 hbytes hbase fun A' c' w' hap => hK _ _ (h A' c' w' hap)

theorem step_append_rowV {ops : Array Oper} {o : Oper} {a : Act} {K : Act → World → Prop} {Q : Exit → Act → World → Prop} {E : Prop} (hgd : o.guard = none) (s x : Operand) (t : TypeId)
    (ho : o.op = .call { callee := .builtin .append, args := #[s, x], argTypes := #[t, t] })
    (base : Nat) (e : TypeId) (i : TypeInfo) (z : Value) (size bytes : Nat) (ht : P.underlying t = some (.slice e)) (hi : P.info? e = some i) (hz : i.zero = some z)
    (hsize : i.size = size) (hby : i.bytes = bytes) (hzs : z.cells.size = size) (hsz : 0 < size)
    (v : Value) (n : Nat) (xs : List Value) (hs : a.eval s = v) (hown : w.ownsRow base e size v n xs)
    (A : Option Addr) (m c : Nat) (news : List Value) (hx : a.eval x = .slice A m c) (hl : news.length = m * size) (hn0 : 0 < m → ∃ ad, A = some ad ∧ ∀ j u, news[j]? = some u → w.cell? (ad.add j) = some u) (h1 : ∀ u ∈ news, u.oneCell' = true)
    (h63 : n + m ≤ maxLen) (hbytes : (n + m) * bytes ≤ 140737488355328) (hbase : base ≤ w.heap.size)
    (h : ∀ A' c' w', Appended w base e size v (n + m) (xs ++ news) A' c' w' → K (a.put o.dst (.slice A' (n + m) c')) w') :
    if Region.wanted o (yielded ops a.tmps) = true then Oper.wp P o a w K Q else E := by
  have hw : Region.wanted o (yielded ops a.tmps) = true := by simp [Region.wanted, hgd]
  rw [if_pos hw]
  exact wp_append_rowV w s x t ho base e i z size bytes ht hi hz hsize hby hzs hsz v n xs hs hown A m c news hx hl hn0 h1 h63 hbytes hbase h
end

theorem add_plain' (b off j : Nat) : (⟨b, off, none⟩ : Addr).add j = ⟨b, off + j, none⟩ := by unfold Addr.add; split <;> simp_all

theorem news_at {w : World} {g : Nat} {cs : Array Value} {t : TypeId} (hg : g = w.heap.size) : ∀ j u, cs.toList[j]? = some u → (w.alloc (.cells cs t)).cell? ((⟨g, 0, none⟩ : Addr).add j) = some u := by
  subst hg
  exact World.news_of_block (heap_alloc_new w _)

theorem RowV.src {w : World} {B : Nat} {A : Option Addr} {n c : Nat} {xs : List Value} (h : RowV w B (.slice A n c) xs) : xs.length = n ∧ (0 < n → ∃ ad, A = some ad ∧ ∀ j u, xs[j]? = some u → w.cell? (ad.add j) = some u) := by
  obtain ⟨A', c', hv, h⟩ := h
  injection hv with h1 h2
  refine ⟨h2.symm, fun hn => ?_⟩
  obtain ⟨b, off, hA, _, hc⟩ := h (by omega)
  exact ⟨⟨b, off, none⟩, h1.trans hA, fun j u hu => by rw [add_plain']; exact hc j u hu⟩

theorem own_rowV {w : World} {base : Nat} {e : TypeId} {A : Option Addr} {n c : Nat} {xs : List Value} (h : w.ownsRow base e 1 (.slice A n c) n xs) : RowV w w.heap.size (.slice A n c) xs := by
  have hl : xs.length = n := by have := h.1; omega
  refine ⟨A, c, by rw [hl], fun hn => ?_⟩
  rcases h.2 with ⟨hv, h0⟩ | ⟨g, cap, cur, hv, hb, hg, _⟩
  · omega
  · injection hv with h1 h2 h3
    subst h1 h3
    refine ⟨g, 0, rfl, (Array.getElem?_eq_some_iff.1 hg).1, fun j u hu => ?_⟩
    have := h.cells (g := g) rfl j u hu
    rwa [add_plain'] at this

end Go.Proofs.Ytadehfoamdkcmaa
