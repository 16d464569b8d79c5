/- Parameters in memory: the contract of params. -/
import Derived.Test.YtlbgmcpjdfoalaaArB
namespace Go.Proofs.Ytlbgmcpjdfoalaa
open Go.RowKit

/-- A row of two cells each. -/
def flat2 (L : List (Value × Value)) : List Value := L.flatMap fun p => [p.1, p.2]
theorem flat2_len (L : List (Value × Value)) : (flat2 L).length = L.length * 2 := by
  induction L with
  | nil => rfl
  | cons p L ih => simp only [flat2, List.flatMap_cons, List.length_append, List.length_cons, List.length_nil] at ih ⊢; omega
theorem flat2_snoc (L : List (Value × Value)) (p : Value × Value) : flat2 (L ++ [p]) = flat2 L ++ [p.1, p.2] := by simp [flat2]
theorem flat2_at : ∀ (L : List (Value × Value)) (j : Nat) (p : Value × Value), L[j]? = some p → (flat2 L)[j * 2]? = some p.1 ∧ (flat2 L)[j * 2 + 1]? = some p.2
  | [], j, p, h => by simp at h
  | q :: L, 0, p, h => by simp at h; subst h; simp [flat2]
  | q :: L, j + 1, p, h => by
    have h' : L[j]? = some p := by simpa using h
    have := flat2_at L j p h'
    have e : flat2 (q :: L) = [q.1, q.2] ++ flat2 L := by simp [flat2]
    rw [e]
    have e1 : (j + 1) * 2 = j * 2 + 2 := by omega
    rw [e1, List.getElem?_append_right (by simp), List.getElem?_append_right (by simp only [List.length_cons, List.length_nil]; omega)]
    simp only [List.length_cons, List.length_nil]
    have e2 : j * 2 + 2 - (0 + 1 + 1) = j * 2 := by omega
    have e3 : j * 2 + 2 + 1 - (0 + 1 + 1) = j * 2 + 1 := by omega
    rw [e2, e3]
    exact this

/-- A slice of values of two cells each, below block B. -/
def Row2 (w : World) (B : Nat) (v : Value) (L : List (Value × Value)) : Prop :=
  ∃ A c, v = .slice A L.length c ∧ (0 < L.length → ∃ b off, A = some ⟨b, off, none⟩ ∧ b < B ∧ ∀ j p, L[j]? = some p → w.cell? ⟨b, off + j * 2, none⟩ = some p.1 ∧ w.cell? ⟨b, off + j * 2 + 1, none⟩ = some p.2)
theorem Row2.below {w w' : World} {B B' : Nat} {v : Value} {L : List (Value × Value)} (h : Row2 w B v L) (hb : Below B' w w') (hB : B ≤ B') : Row2 w' B v L := by
  obtain ⟨A, c, hv, h⟩ := h
  refine ⟨A, c, hv, fun hn => ?_⟩
  obtain ⟨b, off, hA, hbB, hc⟩ := h hn
  exact ⟨b, off, hA, hbB, fun j p hp => ⟨(hb.cell (p := ⟨b, off + j * 2, none⟩) (Nat.lt_of_lt_of_le hbB hB)).trans (hc j p hp).1, (hb.cell (p := ⟨b, off + j * 2 + 1, none⟩) (Nat.lt_of_lt_of_le hbB hB)).trans (hc j p hp).2⟩⟩
theorem Row2.more {w : World} {B B' : Nat} {v : Value} {L : List (Value × Value)} (h : Row2 w B v L) (hB : B ≤ B') : Row2 w B' v L := by
  obtain ⟨A, c, hv, h⟩ := h
  refine ⟨A, c, hv, fun hn => ?_⟩
  obtain ⟨b, off, hA, hbB, hc⟩ := h hn
  exact ⟨b, off, hA, by omega, hc⟩
theorem Row2.form {w : World} {B : Nat} {v : Value} {L : List (Value × Value)} (h : Row2 w B v L) : ∃ A c, v = .slice A L.length c := by
  obtain ⟨A, c, rfl, _⟩ := h
  exact ⟨A, c, rfl⟩
theorem Row2.at_ {w : World} {B : Nat} {A : Option Addr} {n c : Nat} {L : List (Value × Value)} (h : Row2 w B (.slice A n c) L) {k : Nat} (hk : k < L.length) :
    ∃ b off, A = some ⟨b, off, none⟩ ∧ b < B ∧ w.cell? ⟨b, off + k * 2, none⟩ = some (L[k]'hk).1 ∧ w.cell? ⟨b, off + k * 2 + 1, none⟩ = some (L[k]'hk).2 := by
  obtain ⟨A', c', hv, h⟩ := h
  obtain ⟨b, off, hA, hbB, hc⟩ := h (by omega)
  injection hv with h1
  have := hc k _ (List.getElem?_eq_getElem hk)
  exact ⟨b, off, h1.trans hA, hbB, this.1, this.2⟩
theorem own_row2 {w : World} {base : Nat} {e : TypeId} {v : Value} {L : List (Value × Value)} (h : w.ownsRow base e 2 v L.length (flat2 L)) : Row2 w w.heap.size v L := by
  obtain ⟨A, c, rfl⟩ := own_form h
  refine ⟨A, c, rfl, fun hn => ?_⟩
  rcases h.2 with ⟨hv, h0⟩ | ⟨g, cap, cur, hv, hb, hg, _⟩
  · omega
  · injection hv with h1 h2 h3
    subst h1
    refine ⟨g, 0, rfl, (Array.getElem?_eq_some_iff.1 hg).1, fun j p hp => ?_⟩
    have hf := flat2_at L j p hp
    have c1 := h.cells (g := g) rfl _ _ hf.1
    have c2 := h.cells (g := g) rfl _ _ hf.2
    rw [add_plain'] at c1 c2
    exact ⟨c1, by rw [Nat.add_assoc]; exact c2⟩

/-- The default of a parameter: there is one, or none. -/
def DefOk (o : Bool) (d : Value) : Prop := if o = true then ∃ p, d = .iface 113 p else d = .nilIface
/-- Parameters: names, and whether they have defaults. -/
def ParL (ps : List ByteArray) (os : List Bool) (L : List (Value × Value)) : Prop :=
  L.length = ps.length ∧ ∀ (j : Nat) (p : Value × Value), L[j]? = some p → ∃ s o, ps[j]? = some s ∧ os[j]? = some o ∧ p.2 = .string s ∧ DefOk o p.1
theorem ParL.nil (ps : List ByteArray) (os : List Bool) : ParL (ps.take 0) os [] := ⟨rfl, fun j p h => by simp at h⟩
theorem ParL.step {ps : List ByteArray} {os : List Bool} {L : List (Value × Value)} {k : Nat} (h : ParL (ps.take k) os L) (hk : k < ps.length) (hl : os.length = ps.length) {d : Value} (hd : DefOk (os[k]'(by omega)) d) : ParL (ps.take (k + 1)) os (L ++ [(d, .string (ps[k]'hk))]) := by
  have hL : L.length = k := by have := h.1; simp at this; omega
  refine ⟨by simp; omega, fun j p hp => ?_⟩
  rcases Nat.lt_or_ge j k with hj | hj
  · rw [List.getElem?_append_left (by omega)] at hp
    obtain ⟨s, o, h1, h2, h3, h4⟩ := h.2 j p hp
    refine ⟨s, o, ?_, h2, h3, h4⟩
    rw [List.getElem?_take_of_lt (by omega)]
    rw [List.getElem?_take_of_lt hj] at h1
    exact h1
  · have hjk : j = k := by
      have := (List.getElem?_eq_some_iff.1 hp).1
      simp at this
      omega
    subst hjk
    rw [List.getElem?_append_right (by omega), hL, Nat.sub_self] at hp
    simp at hp
    subst hp
    exact ⟨ps[j], os[j]'(by omega), by rw [List.getElem?_take_of_lt (by omega), List.getElem?_eq_getElem hk], List.getElem?_eq_getElem (by omega), rfl, hd⟩

theorem par_info : (Try.prog.info? 105).map (fun i => (i.zero, i.size, i.bytes)) = some (some (.agg #[.nilIface, .string ⟨#[]⟩]), 2, 32) := by kernel_rfl
def bools (l : List Bool) : List Value := l.map Value.bool
theorem bools_len (l : List Bool) : (bools l).length = l.length := by simp [bools]

def ParP (ps : List ByteArray) (os : List Bool) (w : World) (e : Ending) (w' : World) : Prop := ∃ v L, e = .returned v ∧ ParL ps os L ∧ Row2 w' w'.heap.size v L ∧ Below w.heap.size w w'

set_option maxRecDepth 100000 in
set_option maxHeartbeats 2000000 in
theorem params_any (cv ov : Value) (ps : List ByteArray) (os : List Bool) (w : World) (hp : RowV w w.heap.size cv (strs ps)) (ho : RowV w w.heap.size ov (bools os)) (hl : os.length = ps.length) (hn : ps.length ≤ 200) :
    Calls Try.prog 34 #[cv, ov] w (ParP ps os w) := by
  obtain ⟨i0, hi0, hz0, hz1, hz2⟩ := info_parts par_info
  obtain ⟨A, c, rfl⟩ := hp.form
  obtain ⟨A1, c1, rfl⟩ := ho.form'
  rw [bools_len] at ho ⊢
  rw [hl] at ho ⊢
  have HP := Lib.hid hp
  have HO := Lib.hid ho
  have HL := Lib.hid hl
  clear hp ho hl
  go_enter Try.func34, Try.ntmps34
  go_wp2
  go_loopw [5, 11] (fun v i wr => ∃ (k : Nat) (L : List (Value × Value)), k ≤ ps.length ∧ i = .int .i64 k ∧ wr.ownsRow w.heap.size 105 2 v L.length (flat2 L) ∧ Hid (ParL (ps.take k) os L) ∧ L.length = k ∧ Below w.heap.size w wr) (fun _ i _ => ps.length - (intOf i).toNat)
  case atStart => exact ⟨0, [], Nat.zero_le _, rfl, World.ownsRow_nil _ _ _ _, Lib.hid (ParL.nil _ _), rfl, Below.refl _ _⟩
  case round =>
    obtain ⟨k, L, hk, rfl, hown, HPL, hLk, hb⟩ := hrel
    obtain ⟨A5, c5, rfl⟩ := own_form hown
    rw [hLk] at hown ⊢
    have HOW := Lib.hid hown
    have HLK := Lib.hid hLk
    clear hown hLk
    by_cases hlt : k < ps.length
    · have hlt' : (k : Int) < (ps.length : Int) := by omega
      have hsz := hb.size
      obtain ⟨b, off, rfl, hbB, hcell⟩ := (HP.out.below hb (Nat.le_refl _)).at_ hlt
      have hko : k < os.length := by rw [HL.out]; exact hlt
      obtain ⟨b1, o1, rfl, hbB1, hcell1⟩ := (HO.out.below hb (Nat.le_refl _)).get (u := .bool os[k]) (by rw [bools, List.getElem?_map, List.getElem?_eq_getElem hko]; rfl)
      have hb1' : b1 < wr.heap.size := by omega
      cases hbo : os[k] with
      | true =>
        rw [hbo] at hcell1
        go_wp2_with (refine wpList_append_rowV _ rfl (.tmp 32) (.tmp 34) 93 rfl w.heap.size 105 i0 _ 2 32 Try.underlying93 hi0 hz0 hz1 hz2 rfl (by omega) (.slice A5 k c5) k (flat2 L) rfl (((HOW.out.alloc _).alloc _).alloc _) (some ⟨wr.heap.size + 1 + 1, 0, none⟩) 1 1 [.iface 113 (.pointer (some ⟨wr.heap.size + 1, 0, none⟩)), .string ps[k]] rfl rfl (fun _ => ⟨_, rfl, news_at (by simp)⟩) (by simp [Value.oneCell']) (by unfold maxLen; omega) (by omega) (by simp; omega) ?_; intro A6 c6 w6 hap)
        have hbe : Below w.heap.size w w6 := (((hb.alloc hsz _).alloc (by simp; omega) _).alloc (by simp; omega) _).grown hap.grown (by simp; omega) (fun g hg => (HOW.out.lt g hg).1)
        have how : w6.ownsRow w.heap.size 105 2 (.slice A6 (k + 1) c6) (L ++ [(Value.iface 113 (.pointer (some ⟨wr.heap.size + 1, 0, none⟩)), Value.string ps[k])]).length (flat2 (L ++ [(Value.iface 113 (.pointer (some ⟨wr.heap.size + 1, 0, none⟩)), Value.string ps[k])])) := by
          rw [flat2_snoc, List.length_append, HLK.out]
          exact hap.own
        have hpl := HPL.out.step hlt HL.out (d := .iface 113 (.pointer (some ⟨wr.heap.size + 1, 0, none⟩))) (by rw [hbo]; exact ⟨_, rfl⟩)
        have HBE := Lib.hid hbe
        have HOWN := Lib.hid how
        have HPN := Lib.hid hpl
        clear hbe how hap hpl
        go_wp2_with fail
        go_roundw
        case rel => exact ⟨k + 1, _, by omega, by go_num, by exact HOWN.out, HPN, by simp [HLK.out], HBE.out⟩
        case measure => simp [intOf]; omega
      | false =>
        rw [hbo] at hcell1
        go_wp2_with (refine wpList_append_rowV _ rfl (.tmp 32) (.tmp 34) 93 rfl w.heap.size 105 i0 _ 2 32 Try.underlying93 hi0 hz0 hz1 hz2 rfl (by omega) (.slice A5 k c5) k (flat2 L) rfl ((HOW.out.alloc _).alloc _) (some ⟨wr.heap.size + 1, 0, none⟩) 1 1 [.nilIface, .string ps[k]] rfl rfl (fun _ => ⟨_, rfl, news_at (by simp)⟩) (by simp [Value.oneCell']) (by unfold maxLen; omega) (by omega) (by simp; omega) ?_; intro A6 c6 w6 hap)
        have hbe : Below w.heap.size w w6 := ((hb.alloc hsz _).alloc (by simp; omega) _).grown hap.grown (by simp; omega) (fun g hg => (HOW.out.lt g hg).1)
        have how : w6.ownsRow w.heap.size 105 2 (.slice A6 (k + 1) c6) (L ++ [(Value.nilIface, Value.string ps[k])]).length (flat2 (L ++ [(Value.nilIface, Value.string ps[k])])) := by
          rw [flat2_snoc, List.length_append, HLK.out]
          exact hap.own
        have hpl := HPL.out.step hlt HL.out (d := .nilIface) (by rw [hbo]; exact rfl)
        have HBE := Lib.hid hbe
        have HOWN := Lib.hid how
        have HPN := Lib.hid hpl
        clear hbe how hap hpl
        go_wp2_with fail
        go_roundw
        case rel => exact ⟨k + 1, _, by omega, by go_num, by exact HOWN.out, HPN, by simp [HLK.out], HBE.out⟩
        case measure => simp [intOf]; omega
    · obtain rfl : k = ps.length := by omega
      have hpl := HPL.out
      rw [List.take_length] at hpl
      have HPN := Lib.hid hpl
      have hrow := own_row2 (L := L) (by have := HOW.out; rw [HLK.out]; exact this)
      have HRW := Lib.hid hrow
      clear hpl hrow
      go_wp2_with fail
      go_ret
      exact ⟨_, L, rfl, HPN.out, HRW.out, hb⟩
end Go.Proofs.Ytlbgmcpjdfoalaa
