/- Plain facts on lines of bytes: the code points that remain, trimmed ends, white space. -/
import Derived.Test.YtlbgmcpjdfoalaaDoorPtA
namespace Go.Proofs.YtlbgmcpjdfoalaaDoor
open Go.RowKit Rune

/-- What remains of a string from a place on is made of code points. -/
def Rem (s : ByteArray) (pos : Nat) (l : List Nat) : Prop := pos ≤ s.size ∧ (∀ n ∈ l, okR n) ∧ s.data.toList.drop pos = enc l

theorem size_list (s : ByteArray) : s.data.toList.length = s.size := by rw [Array.length_toList]; rfl
theorem Rem.nil_end {s : ByteArray} {pos : Nat} (h : Rem s pos []) : pos = s.size := by
  have h2 := congrArg List.length h.2.2
  simp only [List.length_drop, size_list, enc, List.flatMap_nil, List.length_nil] at h2
  have := h.1
  omega
theorem Rem.head {s : ByteArray} {pos r : Nat} {l : List Nat} (h : Rem s pos (r :: l)) : PointAt s pos r (encB r).length ∧ Rem s (pos + (encB r).length) l ∧ pos < s.size := by
  have hr : okR r := h.2.1 r (List.mem_cons_self ..)
  have hp := encB_pos hr
  have hd := h.2.2
  rw [enc_cons] at hd
  have hl := congrArg List.length hd
  simp only [List.length_drop, size_list, List.length_append] at hl
  have h1 := h.1
  refine ⟨⟨hr, rfl, fun k x hx => ?_⟩, ⟨by omega, fun n hn => h.2.1 n (List.mem_cons_of_mem _ hn), ?_⟩, by omega⟩
  · have hk := (List.getElem?_eq_some_iff.1 hx).1
    have := congrArg (fun m => m[k]?) hd
    simp only [List.getElem?_drop] at this
    rw [this, List.getElem?_append_left hk, hx]
  · rw [← List.drop_drop, hd, List.drop_left]
theorem Rem.take {s : ByteArray} {pos r : Nat} {l : List Nat} (h : Rem s pos (r :: l)) : s.data.toList.take (pos + (encB r).length) = s.data.toList.take pos ++ encB r := by
  have hd := h.2.2
  rw [enc_cons] at hd
  rw [List.take_add, hd, List.take_left]

def blkB (b : UInt8) : Bool := b == 32 || b == 9 || b == 13
def wsB (b : UInt8) : Bool := b == 10 || blkB b
def trimB (l : List UInt8) : List UInt8 := (l.reverse.dropWhile blkB).reverse
theorem trimB_blk (l : List UInt8) (b : UInt8) (h : blkB b = true) : trimB (l ++ [b]) = trimB l := by
  simp [trimB, h]
theorem trimB_non (l : List UInt8) (b : UInt8) (h : blkB b = false) : trimB (l ++ [b]) = l ++ [b] := by
  simp [trimB, h]
theorem trimB_nil : trimB [] = [] := rfl
theorem trimB_pre (l : List UInt8) : ∃ t, l = trimB l ++ t := by
  refine ⟨(l.reverse.takeWhile blkB).reverse, ?_⟩
  unfold trimB
  rw [← List.reverse_append, List.takeWhile_append_dropWhile, List.reverse_reverse]
theorem trimB_len (l : List UInt8) : (trimB l).length ≤ l.length := by
  obtain ⟨t, h⟩ := trimB_pre l
  have := congrArg List.length h
  simp at this
  omega
theorem trimB_take (l : List UInt8) : l.take (trimB l).length = trimB l := by
  obtain ⟨t, h⟩ := trimB_pre l
  have : l.take (trimB l).length = (trimB l ++ t).take (trimB l).length := by rw [← h]
  rw [this, List.take_left]

theorem high_bytes {r : Nat} (hr : okR r) (h : 128 ≤ r) : ∀ b ∈ encB r, 128 ≤ b.toNat := by
  have hmod : ∀ n : Nat, n < 256 → 128 ≤ n → 128 ≤ (UInt8.ofNat n).toNat := fun n h1 h2 => by rw [ofN h1]; exact h2
  have hle : r ≤ 1114111 := by unfold okR at hr; omega
  rcases Nat.lt_or_ge r 2048 with h2 | h2
  · rw [enc2 h h2]
    intro b hb
    simp only [List.mem_cons, List.not_mem_nil, or_false] at hb
    rcases hb with rfl | rfl
    · exact hmod _ (by omega) (by omega)
    · exact hmod _ (by omega) (by omega)
  · rcases Nat.lt_or_ge r 65536 with h3 | h3
    · rw [enc3 hr h2 h3]
      intro b hb
      simp only [List.mem_cons, List.not_mem_nil, or_false] at hb
      rcases hb with rfl | rfl | rfl
      · exact hmod _ (by omega) (by omega)
      · exact hmod _ (by omega) (by omega)
      · exact hmod _ (by omega) (by omega)
    · rw [enc4 hr h3]
      intro b hb
      simp only [List.mem_cons, List.not_mem_nil, or_false] at hb
      rcases hb with rfl | rfl | rfl | rfl
      · exact hmod _ (by omega) (by omega)
      · exact hmod _ (by omega) (by omega)
      · exact hmod _ (by omega) (by omega)
      · exact hmod _ (by omega) (by omega)
theorem blk_high {b : UInt8} (h : 128 ≤ b.toNat) : blkB b = false ∧ b ≠ 10 := by
  constructor
  · unfold blkB
    have : ∀ c : UInt8, c.toNat < 128 → (b == c) = false := fun c hc => by
      have : b ≠ c := fun e => by subst e; omega
      simpa using this
    rw [this 32 (by decide), this 9 (by decide), this 13 (by decide)]
    rfl
  · intro e; subst e; exact absurd h (by decide)
theorem trimB_high (l : List UInt8) {r : Nat} (hr : okR r) (h : 128 ≤ r) : trimB (l ++ encB r) = l ++ encB r := by
  have hp := (encB_pos hr).1
  obtain ⟨t, b, he⟩ : ∃ t b, encB r = t ++ [b] := by
    have hne : encB r ≠ [] := by intro e; rw [e] at hp; simp at hp
    exact ⟨(encB r).dropLast, (encB r).getLast hne, (List.dropLast_concat_getLast hne).symm⟩
  have hb := blk_high (high_bytes hr h b (by rw [he]; simp))
  rw [he, ← List.append_assoc, trimB_non _ _ hb.1]
theorem high_no10 {r : Nat} (hr : okR r) (h : 128 ≤ r) : (10 : UInt8) ∉ encB r := fun hm => (blk_high (high_bytes hr h _ hm)).2 rfl

/-- White space read: line feeds, and columns behind the last one. -/
def wsStep (a : Nat × Nat) (b : UInt8) : Nat × Nat := if b = 10 then (a.1 + 1, 0) else if b = 32 then (a.1, a.2 + 1) else if b = 9 then (a.1, a.2 + 8) else a
def ws (l : List UInt8) : Nat × Nat := l.foldl wsStep (0, 0)
theorem ws_snoc (l : List UInt8) (b : UInt8) : ws (l ++ [b]) = wsStep (ws l) b := by simp [ws]
theorem wsStep_le (a : Nat × Nat) (b : UInt8) : (wsStep a b).1 ≤ a.1 + 1 ∧ (wsStep a b).2 ≤ a.2 + 8 := by
  unfold wsStep
  split
  · exact ⟨Nat.le_refl _, Nat.zero_le _⟩
  · split
    · simp
    · split <;> simp
theorem ws_fold_le : ∀ (l : List UInt8) (a : Nat × Nat), (l.foldl wsStep a).1 ≤ a.1 + l.length ∧ (l.foldl wsStep a).2 ≤ a.2 + 8 * l.length
  | [], a => by simp
  | b :: l, a => by
    have h1 := ws_fold_le l (wsStep a b)
    have h2 := wsStep_le a b
    simp only [List.foldl_cons, List.length_cons]
    omega
theorem ws_le (l : List UInt8) : (ws l).1 ≤ l.length ∧ (ws l).2 ≤ 8 * l.length := by
  have := ws_fold_le l (0, 0)
  simpa [ws] using this
theorem ws_fold_mono : ∀ (l : List UInt8) (a : Nat × Nat), a.1 ≤ (l.foldl wsStep a).1
  | [], a => Nat.le_refl _
  | b :: l, a => by
    refine Nat.le_trans ?_ (ws_fold_mono l (wsStep a b))
    unfold wsStep
    split
    · simp
    · split
      · simp
      · split <;> simp
theorem ws_pos (l : List UInt8) (h : l[0]? = some 10) : 1 ≤ (ws l).1 := by
  cases l with
  | nil => simp at h
  | cons b l =>
    simp at h
    subst h
    have := ws_fold_mono l (wsStep (0, 0) 10)
    exact this

/-- The line ends at a place; the white space behind it at another. -/
def LineEnds (s : ByteArray) (p : Nat) : Prop := p ≤ s.size ∧ (10 : UInt8) ∉ s.data.toList.take p ∧ (p < s.size → s.data.toList[p]? = some 10)
theorem LineEnds.uniq {s : ByteArray} {p q : Nat} (h : LineEnds s p) (k : LineEnds s q) : p = q := by
  have one : ∀ {p q : Nat}, LineEnds s p → LineEnds s q → ¬p < q := fun {p q} h k hlt => by
    have hp := h.2.2 (by have := k.1; omega)
    refine k.2.1 ?_
    have : (s.data.toList.take q)[p]? = some 10 := by rw [List.getElem?_take_of_lt hlt, hp]
    exact List.mem_of_getElem? this
  have a := one h k
  have b := one k h
  omega
def WsEnds (s : ByteArray) (p q : Nat) : Prop := p ≤ q ∧ q ≤ s.size ∧ (∀ j b, p ≤ j → j < q → s.data.toList[j]? = some b → wsB b = true) ∧ ∀ b, s.data.toList[q]? = some b → wsB b = false
theorem WsEnds.uniq {s : ByteArray} {p q q' : Nat} (h : WsEnds s p q) (k : WsEnds s p q') : q = q' := by
  have one : ∀ {q q' : Nat}, WsEnds s p q → WsEnds s p q' → ¬q < q' := fun {q q'} h k hlt => by
    have hq : q < s.size := by have := k.2.1; omega
    have hb : s.data.toList[q]? = some (s.data.toList[q]'(by rw [size_list]; exact hq)) := List.getElem?_eq_getElem _
    have h1 := h.2.2.2 _ hb
    have h2 := k.2.2.1 q _ h.1 hlt hb
    rw [h1] at h2
    cases h2
  have a := one h k
  have b := one k h
  omega
def seg (s : ByteArray) (p q : Nat) : List UInt8 := (s.data.toList.drop p).take (q - p)
theorem seg_snoc {s : ByteArray} {p q : Nat} {b : UInt8} (h : p ≤ q) (hb : s.data.toList[q]? = some b) : seg s p (q + 1) = seg s p q ++ [b] := by
  unfold seg
  have e : q + 1 - p = (q - p) + 1 := by omega
  rw [e, List.take_add_one, List.getElem?_drop]
  have e2 : p + (q - p) = q := by omega
  rw [e2, hb]
  rfl
theorem seg_len (s : ByteArray) (p q : Nat) : (seg s p q).length ≤ q - p := by
  unfold seg; simp
  try omega
theorem seg_self (s : ByteArray) (p : Nat) : seg s p p = [] := by simp [seg]
end Go.Proofs.YtlbgmcpjdfoalaaDoor
