/- Elements of fodder in memory, and the contracts of the functions that only read: zzFits5, zzFits8, zzFits7, element, follows, dull, sameElement. -/
import Derived.Test.YtlbgmcpjdfoalaaRows
import Derived.WalkKit
import Derived.WalkSpells
import Derived.WalkLawsBesides
import Derived.BigQuiet
import Derived.Deep.QuietTactic
import Derived.Deep.Draws
import Derived.Deep.RegionWith
import Derived.Deep.RegionHeld3
import Derived.BigGuardPart
import Derived.Lib.Hide
namespace Go.Proofs.Ytlbgmcpjdfoalaa
open Go.RowKit

theorem retB {a b : Bool} (h : a = b) : Ending.returned (.bool a) = .returned (.bool b) := by rw [h]
def AnyBool (w : World) (e : Ending) (w' : World) : Prop := ∃ b, e = .returned (.bool b) ∧ w = w'
def AnyBoolB (w : World) (e : Ending) (w' : World) : Prop := ∃ b, e = .returned (.bool b) ∧ Below w.heap.size w w'
def BoolB (b : Bool) (w : World) (e : Ending) (w' : World) : Prop := e = .returned (.bool b) ∧ Below w.heap.size w w'

/-- An element of fodder, as data. -/
structure El where
  kind : Int
  blanks : Int
  indent : Int
  com : List ByteArray

def strs (l : List ByteArray) : List Value := l.map Value.string
theorem strs_len (l : List ByteArray) : (strs l).length = l.length := by simp [strs]

/-- A slice of one-cell values that lies below block B. -/
def RowV (w : World) (B : Nat) (v : Value) (xs : List Value) : Prop :=
  ∃ A c, v = .slice A xs.length c ∧ (0 < xs.length → ∃ b off, A = some ⟨b, off, none⟩ ∧ b < B ∧ ∀ j u, xs[j]? = some u → w.cell? ⟨b, off + j, none⟩ = some u)

theorem RowV.keep {w w' : World} {B : Nat} {v : Value} {xs : List Value} (h : RowV w B v xs) (hk : ∀ b o, b < B → w'.cell? ⟨b, o, none⟩ = w.cell? ⟨b, o, none⟩) : RowV w' B v xs := by
  obtain ⟨A, c, hv, h⟩ := h
  refine ⟨A, c, hv, fun hn => ?_⟩
  obtain ⟨b, off, hA, hb, hc⟩ := h hn
  exact ⟨b, off, hA, hb, fun j u hu => (hk _ _ hb).trans (hc j u hu)⟩
theorem RowV.below {w w' : World} {B B' : Nat} {v : Value} {xs : List Value} (h : RowV w B v xs) (hb : Below B' w w') (hB : B ≤ B') : RowV w' B v xs :=
  h.keep fun b o h => hb.cell (p := ⟨b, o, none⟩) (Nat.lt_of_lt_of_le h hB)
theorem RowV.more {w : World} {B B' : Nat} {v : Value} {xs : List Value} (h : RowV w B v xs) (hB : B ≤ B') : RowV w B' v xs := by
  obtain ⟨A, c, hv, h⟩ := h
  refine ⟨A, c, hv, fun hn => ?_⟩
  obtain ⟨b, off, hA, hb, hc⟩ := h hn
  exact ⟨b, off, hA, by omega, hc⟩

theorem RowV.form {w : World} {B : Nat} {v : Value} {ss : List ByteArray} (h : RowV w B v (strs ss)) : ∃ A c, v = .slice A ss.length c := by
  obtain ⟨A, c, rfl, _⟩ := h
  exact ⟨A, c, by rw [strs_len]⟩

theorem RowV.at_ {w : World} {B : Nat} {A : Option Addr} {n c : Nat} {ss : List ByteArray} (h : RowV w B (.slice A n c) (strs ss)) {k : Nat} (hk : k < ss.length) :
    ∃ b off, A = some ⟨b, off, none⟩ ∧ b < B ∧ w.cell? ⟨b, off + k, none⟩ = some (.string (ss[k]'hk)) := by
  obtain ⟨A', c', hv, h⟩ := h
  obtain ⟨b, off, hA, hb, hc⟩ := h (by rw [strs_len]; omega)
  injection hv with h1
  exact ⟨b, off, h1.trans hA, hb, hc k _ (by simp [strs, hk])⟩

def eRow (e : El) (cv : Value) : List Value := [.int .i64 e.kind, .int .i64 e.blanks, .int .i64 e.indent, cv]
def eVal (e : El) (cv : Value) : Value := .agg #[.int .i64 e.kind, .int .i64 e.blanks, .int .i64 e.indent, cv]

/-- A slice of elements (of impl's make) that lies below block B. -/
def ElsV (w : World) (B : Nat) (v : Value) (es : List El) : Prop :=
  ∃ A c, v = .slice A es.length c ∧ (0 < es.length → ∃ b off, A = some ⟨b, off, none⟩ ∧ b < B ∧ ∀ k e, es[k]? = some e → ∃ cv, RowV w B cv (strs e.com) ∧
    w.cell? ⟨b, off + k * 4, none⟩ = some (.int .i64 e.kind) ∧ w.cell? ⟨b, off + k * 4 + 1, none⟩ = some (.int .i64 e.blanks) ∧
    w.cell? ⟨b, off + k * 4 + 2, none⟩ = some (.int .i64 e.indent) ∧ w.cell? ⟨b, off + k * 4 + 3, none⟩ = some cv)

theorem ElsV.keep {w w' : World} {B : Nat} {v : Value} {es : List El} (h : ElsV w B v es) (hk : ∀ b o, b < B → w'.cell? ⟨b, o, none⟩ = w.cell? ⟨b, o, none⟩) : ElsV w' B v es := by
  obtain ⟨A, c, hv, h⟩ := h
  refine ⟨A, c, hv, fun hn => ?_⟩
  obtain ⟨b, off, hA, hb, hc⟩ := h hn
  refine ⟨b, off, hA, hb, fun k e he => ?_⟩
  obtain ⟨cv, h0, h1, h2, h3, h4⟩ := hc k e he
  exact ⟨cv, h0.keep hk, (hk _ _ hb).trans h1, (hk _ _ hb).trans h2, (hk _ _ hb).trans h3, (hk _ _ hb).trans h4⟩
theorem ElsV.below {w w' : World} {B B' : Nat} {v : Value} {es : List El} (h : ElsV w B v es) (hb : Below B' w w') (hB : B ≤ B') : ElsV w' B v es :=
  h.keep fun b o h => hb.cell (p := ⟨b, o, none⟩) (Nat.lt_of_lt_of_le h hB)

theorem ElsV.mono_ {w : World} {B B' : Nat} {v : Value} {es : List El} (h : ElsV w B v es) (hB : B ≤ B') : ElsV w B' v es := by
  obtain ⟨A, c, hv, h⟩ := h
  refine ⟨A, c, hv, fun hn => ?_⟩
  obtain ⟨b, off, hA, hb, hc⟩ := h hn
  refine ⟨b, off, hA, by omega, fun k e he => ?_⟩
  obtain ⟨cv, h0, h1⟩ := hc k e he
  exact ⟨cv, h0.more hB, h1⟩
theorem ElsV.form {w : World} {B : Nat} {v : Value} {es : List El} (h : ElsV w B v es) : ∃ A c, v = .slice A es.length c := by
  obtain ⟨A, c, rfl, _⟩ := h
  exact ⟨A, c, rfl⟩
theorem ElsV.at_ {w : World} {B : Nat} {A : Option Addr} {n c : Nat} {es : List El} (h : ElsV w B (.slice A n c) es) {k : Nat} (hk : k < es.length) :
    ∃ b off Ac cc, A = some ⟨b, off, none⟩ ∧ b < B ∧ RowV w B (.slice Ac (es[k]'hk).com.length cc) (strs (es[k]'hk).com) ∧
      w.cell? ⟨b, off + k * 4, none⟩ = some (.int .i64 (es[k]'hk).kind) ∧ w.cell? ⟨b, off + k * 4 + 1, none⟩ = some (.int .i64 (es[k]'hk).blanks) ∧
      w.cell? ⟨b, off + k * 4 + 2, none⟩ = some (.int .i64 (es[k]'hk).indent) ∧ w.cell? ⟨b, off + k * 4 + 3, none⟩ = some (.slice Ac (es[k]'hk).com.length cc) := by
  obtain ⟨A', c', hv, h⟩ := h
  obtain ⟨b, off, hA, hb, hc⟩ := h (by omega)
  obtain ⟨cv, hcv, c0, c1, c2, c3⟩ := hc k _ (List.getElem?_eq_getElem hk)
  obtain ⟨Ac, cc, rfl⟩ := hcv.form
  injection hv with h1
  exact ⟨b, off, Ac, cc, h1.trans hA, hb, hcv, c0, c1, c2, c3⟩

set_option maxHeartbeats 400000 in
theorem fits5_any (cv : Value) (ss : List ByteArray) (w : World) (B : Nat) (hr : RowV w B cv (strs ss)) (hl : ss.length ≤ 9223372036854775807) :
    Calls Try.prog 11 #[cv] w (AnyBool w) := by
  obtain ⟨A, c, rfl⟩ := hr.form
  have H := Lib.hid hr
  clear hr
  go_enter Try.func11, Try.ntmps11
  go_wp2
  · go_ret; exact ⟨_, rfl, rfl⟩
  · go_loop [10] (fun i => ∃ k : Nat, k ≤ ss.length ∧ i = .int .i64 k) (fun i => ss.length - (intOf i).toNat)
    case atStart => exact ⟨0, Nat.zero_le _, rfl⟩
    case round =>
      obtain ⟨k, hk, rfl⟩ := hrel
      by_cases hlt : k < ss.length
      · obtain ⟨b, off, rfl, hb, hcell⟩ := H.out.at_ hlt
        go_wp2
        · go_ret; exact ⟨_, rfl, rfl⟩
        · go_round
          case rel => exact ⟨k + 1, by omega, by go_num⟩
          case measure => simp [intOf]; omega
      · go_wp2
        go_ret; exact ⟨_, rfl, rfl⟩

set_option maxHeartbeats 400000 in
theorem fits8_any (e : El) (cv : Value) (w : World) (B : Nat) (hB : B ≤ w.heap.size) (hr : RowV w B cv (strs e.com)) (hl : e.com.length ≤ 9223372036854775807) :
    Calls Try.prog 16 #[eVal e cv] w (AnyBoolB w) := by
  have hA : ∃ A c, cv = .slice A e.com.length c := by obtain ⟨A, c, rfl, _⟩ := hr; exact ⟨A, c, by rw [strs_len]⟩
  obtain ⟨A, c, rfl⟩ := hA
  unfold eVal
  go_enter Try.func16, Try.ntmps16
  go_wp2_with (go_at_call 11; refine (fits5_any _ e.com _ B (hr.below ((Below.refl w.heap.size _).alloc (Nat.le_refl _) _) hB) hl).mono ?_; rintro e w' ⟨b, rfl, rfl⟩)
  all_goals (go_ret; exact ⟨_, rfl, (Below.refl _ _).alloc (Nat.le_refl _) _⟩)

set_option maxHeartbeats 400000 in
theorem fits7_any (v : Value) (es : List El) (w : World) (hr : ElsV w w.heap.size v es) (hl : es.length ≤ 9223372036854775807) (hc : ∀ e ∈ es, e.com.length ≤ 9223372036854775807) :
    Calls Try.prog 5 #[v] w (AnyBoolB w) := by
  have H := Lib.hid hr
  obtain ⟨A, c, rfl, _⟩ := hr
  go_enter Try.func5, Try.ntmps5
  go_wp2
  · go_ret; exact ⟨_, rfl, Below.refl _ _⟩
  · go_loopw [10] (fun i wr => ∃ k : Nat, k ≤ es.length ∧ i = .int .i64 k ∧ Below w.heap.size w wr) (fun i _ => es.length - (intOf i).toNat)
    case atStart => exact ⟨0, Nat.zero_le _, rfl, Below.refl _ _⟩
    case round =>
      obtain ⟨k, hk, rfl, hb⟩ := hrel
      by_cases hlt : k < es.length
      · obtain ⟨b, off, Ac, cc, rfl, hbB, hcv, c0, c1, c2, c3⟩ := (H.out.below hb (Nat.le_refl _)).at_ hlt
        have hlc := hc _ (List.getElem_mem hlt)
        go_wp2_with (go_at_call 16; refine (fits8_any es[k] (.slice Ac es[k].com.length cc) _ w.heap.size (by have := hb.size; simp; omega) (hcv.below ((Below.refl wr.heap.size _).alloc (Nat.le_refl _) _) hb.size) hlc).mono ?_; rintro e w' ⟨b', rfl, hb'⟩)
        · go_ret; exact ⟨_, rfl, (hb.alloc hb.size _).trans (hb'.mono (by have := hb.size; simp; omega))⟩
        · go_roundw
          case rel => exact ⟨k + 1, by omega, by go_num, (hb.alloc hb.size _).trans (hb'.mono (by have := hb.size; simp; omega))⟩
          case measure => simp [intOf]; omega
      · go_wp2
        go_ret; exact ⟨_, rfl, hb⟩

def shortB (l : List ByteArray) : Bool := l.all fun s => decide (s.size ≤ 200)
def numsB (e : El) : Bool := decide (0 ≤ e.blanks ∧ e.blanks ≤ 1000 ∧ 0 ≤ e.indent ∧ e.indent ≤ 1000 ∧ e.com.length ≤ 20)
def kindB (e : El) : Bool := decide (e.kind = 0 ∧ e.com.length ≤ 1 ∨ e.kind = 1 ∧ e.com.length = 1 ∧ e.blanks = 0 ∧ e.indent = 0 ∨ e.kind = 2 ∧ 0 < e.com.length)
def elemB (e : El) : Bool := numsB e && shortB e.com && kindB e
theorem elemB_kind {e : El} (h : elemB e = true) : 0 ≤ e.kind ∧ e.kind ≤ 2 ∧ e.com.length ≤ 20 := by
  simp [elemB, numsB, kindB] at h
  omega
theorem elemB_false1 {e : El} (h : numsB e = false) : elemB e = false := by simp [elemB, h]
theorem elemB_false2 {e : El} (k : Nat) (hk : k < e.com.length) (h : 200 < (e.com[k]'hk).size) : elemB e = false := by
  have : shortB e.com = false := by
    unfold shortB
    rw [List.all_eq_false]
    exact ⟨e.com[k]'hk, List.getElem_mem hk, by simp; omega⟩
  simp [elemB, this]
theorem elemB_rest {e : El} (h1 : numsB e = true) (h2 : ∀ j (hj : j < e.com.length), (e.com[j]'hj).size ≤ 200) : elemB e = kindB e := by
  have : shortB e.com = true := by
    unfold shortB
    rw [List.all_eq_true]
    intro s hs
    obtain ⟨j, hj, rfl⟩ := List.mem_iff_getElem.1 hs
    simpa using h2 j hj
  simp [elemB, h1, this]

set_option maxHeartbeats 1000000 in
theorem element_any (e : El) (cv : Value) (w : World) (B : Nat) (hB : B ≤ w.heap.size) (hr : RowV w B cv (strs e.com)) (hl : e.com.length ≤ 9223372036854775807) :
    Calls Try.prog 27 #[eVal e cv] w (BoolB (elemB e) w) := by
  have hr' := hr.below (w' := w.alloc (.cells #[.int .i64 e.kind, .int .i64 e.blanks, .int .i64 e.indent, cv] 39)) ((Below.refl w.heap.size _).alloc (Nat.le_refl _) _) hB
  obtain ⟨A, c, rfl⟩ := hr.form
  have H := Lib.hid hr'
  clear hr' hr
  unfold eVal
  go_enter Try.func27, Try.ntmps27
  go_wp2
  rotate_right
  · have hn : Hid (numsB e = true) := Lib.hid (by simp [numsB]; omega)
    go_loop [3] (fun i => ∃ k : Nat, k ≤ e.com.length ∧ i = .int .i64 k ∧ Hid (∀ j (hj : j < e.com.length), j < k → (e.com[j]'hj).size ≤ 200)) (fun i => e.com.length - (intOf i).toNat)
    case atStart => exact ⟨0, Nat.zero_le _, rfl, Lib.hid (fun j _ hj => absurd hj (Nat.not_lt_zero j))⟩
    case round =>
      obtain ⟨k, hk, rfl, hs⟩ := hrel
      by_cases hlt : k < e.com.length
      · obtain ⟨b, off, rfl, hb, hcell⟩ := H.out.at_ hlt
        go_wp2
        · go_ret
          exact ⟨retB (elemB_false2 k hlt (by omega)).symm, (Below.refl _ _).alloc (Nat.le_refl _) _⟩
        · have hle : (e.com[k]'hlt).size ≤ 200 := by omega
          go_round
          case rel =>
            refine ⟨k + 1, by omega, by go_num, Lib.hid (fun j hj hjk => ?_)⟩
            by_cases e : j = k
            · subst e; exact hle
            · exact hs.out j hj (by omega)
          case measure => simp [intOf]; omega
      · have hall : Hid (elemB e = kindB e) := Lib.hid (elemB_rest hn.out fun j hj => hs.out j hj (by omega))
        go_wp2
        all_goals
          go_ret
          refine ⟨retB ?_, (Below.refl _ _).alloc (Nat.le_refl _) _⟩
          rw [hall.out, Bool.eq_iff_iff]
          simp only [beq_iff_eq, beq_eq_false_iff_ne, ne_eq] at *
          simp [kindB]
          omega
  all_goals (go_ret; exact ⟨retB (elemB_false1 (by simp [numsB]; omega)).symm, (Below.refl _ _).alloc (Nat.le_refl _) _⟩)
end Go.Proofs.Ytlbgmcpjdfoalaa
