/- The law FnFoundWhere: where a field is found. -/
import Derived.Test.YtadehfoamdkcmaaDoorFdI
import Derived.Laws.Strings
namespace Go.Proofs.YtadehfoamdkcmaaDoor
open Go.RowKit

noncomputable def wantV (l : List (List ByteArray)) (i : Nat) (a : Int) (f : ByteArray) : Int :=
  match ff (l.take i).reverse (a - ((l.length : Int) - i)) f with
  | some d => (d : Int) + ((l.length : Int) - i)
  | none => -1
open Classical in
noncomputable def innerV (n i : Nat) (a : Int) (f : ByteArray) (ns : List ByteArray) (old : Int) (j : Nat) : Int := if a ≤ (n : Int) - 1 - i ∧ f ∈ ns.take j then (n : Int) - 1 - i else old
theorem want0 (l : List (List ByteArray)) (a : Int) (f : ByteArray) : wantV l 0 a f = -1 := by simp [wantV, ff]
theorem inner0 (n i : Nat) (a : Int) (f : ByteArray) (ns : List ByteArray) (old : Int) : innerV n i a f ns old 0 = old := by simp [innerV]
theorem inner_hit {n i : Nat} {a : Int} {f : ByteArray} {ns : List ByteArray} {old : Int} {j : Nat} (hj : j < ns.length) (he : ns[j] = f) (ha : a ≤ (n : Int) - 1 - i) : innerV n i a f ns old (j + 1) = (n : Int) - 1 - i := by
  unfold innerV
  rw [if_pos]
  exact ⟨ha, by rw [take_snoc _ _ hj, he]; simp⟩
theorem inner_miss {n i : Nat} {a : Int} {f : ByteArray} {ns : List ByteArray} {old : Int} {j : Nat} (hj : j < ns.length) (he : ns[j] ≠ f ∨ ¬ a ≤ (n : Int) - 1 - i) : innerV n i a f ns old (j + 1) = innerV n i a f ns old j := by
  unfold innerV
  rcases he with he | he
  · have : f ∈ ns.take (j + 1) ↔ f ∈ ns.take j := by
      rw [take_snoc _ _ hj]
      simp only [List.mem_append, List.mem_singleton]
      exact ⟨fun h => h.resolve_right fun h => he h.symm, .inl⟩
    by_cases h : a ≤ (n : Int) - 1 - i ∧ f ∈ ns.take (j + 1)
    · rw [if_pos h, if_pos ⟨h.1, this.1 h.2⟩]
    · rw [if_neg h, if_neg (fun h' => h ⟨h'.1, this.2 h'.2⟩)]
  · rw [if_neg (fun h => he h.1), if_neg (fun h => he h.1)]
theorem want_step {l : List (List ByteArray)} {i : Nat} {a : Int} {f : ByteArray} (hi : i < l.length) : wantV l (i + 1) a f = innerV l.length i a f l[i] (wantV l i a f) l[i].length := by
  unfold wantV innerV
  rw [take_snoc _ _ hi, List.reverse_append, List.take_length]
  simp only [List.reverse_singleton, List.singleton_append]
  by_cases hc : a ≤ (l.length : Int) - 1 - i ∧ f ∈ l[i]
  · rw [if_pos hc, simp_some ⟨by have := hc.1; omega, hc.2⟩]
    simp only []
    omega
  · rw [if_neg hc, simp_none (fun h => hc ⟨by have := h.1; omega, h.2⟩)]
    have e : a - ((l.length : Int) - ((i + 1 : Nat) : Int)) - 1 = a - ((l.length : Int) - i) := by omega
    rw [e]
    cases ff (l.take i).reverse (a - ((l.length : Int) - i)) f with
    | none => rfl
    | some d => simp only [Option.map_some]; omega
theorem want_end (l : List (List ByteArray)) (a : Int) (f : ByteArray) : wantV l l.length a f = match ff (objsOf l) a f with | some d => (d : Int) | none => -1 := by
  unfold wantV objsOf
  rw [List.take_length]
  split
  · rename_i d h
    by_cases he : l = []
    · subst he; simp [ff] at h
    · rw [if_neg he]
      rw [show a - ((l.length : Int) - (l.length : Int)) = a by omega] at h
      rw [h]
      simp
  · rename_i h
    by_cases he : l = []
    · subst he; rw [if_pos rfl, simp_none (by simp)]; simp [ff]
    · rw [if_neg he]
      rw [show a - ((l.length : Int) - (l.length : Int)) = a by omega] at h
      rw [h]

theorem ne_of_toList {a b : ByteArray} (h : (a.toList == b.toList) = false) : a ≠ b := by
  rintro rfl
  simp at h
theorem eq_of_toList {a b : ByteArray} (h : (a.toList == b.toList) = true) : a = b := by
  have h1 : a.toList = b.toList := by simpa using h
  rw [ByteArray.toList_eq, ByteArray.toList_eq] at h1
  exact ByteArray.ext (Array.ext' h1)

set_option maxRecDepth 100000 in
set_option maxHeartbeats 4000000 in
theorem where_any (v : Value) (es : List St) (a : Int) (f : ByteArray) (w : World) (hr : StsV w w.heap.size v es) (hl : es.length ≤ maxLen) (hz : NamesOk es) (hf : f.size ≤ maxLen) (ha0 : 0 ≤ a) (ha1 : a ≤ 255) (hT : Lib.Utf8Tabs 0 1 w) :
    Calls Tryd.prog 4 #[v, .int .u8 a, .string f] w (TrueB w) := by
  have H := Lib.hid hr
  have HZ := Lib.hid hz
  have HT := Lib.hid hT
  have HF := Lib.hid hf
  obtain ⟨A, c, rfl⟩ := hr.form
  clear hr hz hT
  unfold maxLen at hl hf
  go_enter Tryd.func4, Tryd.ntmps4
  go_wp2_with fail
  refine (fits11_any _ es _ H.out (by omega) (fun e he => by have := (HZ.out e he).2; unfold maxLen at this; omega)).mono ?_
  rintro e w1 ⟨q, rfl, h1⟩
  have H1 := Lib.hid h1
  clear h1
  cases q
  · go_wp2_with fail
    go_ret
    exact ⟨rfl, H1.out⟩
  by_cases hbig : 2147483647 < f.size
  · have hbig' : (2147483647 : Int) < (f.size : Int) := by omega
    go_wp2_with fail
    go_ret
    exact ⟨rfl, H1.out⟩
  have hbig' : ¬ (2147483647 : Int) < (f.size : Int) := by omega
  have HQ := Lib.hid (few_any _ es w1 (H.out.now H1.out) (Utf8Tabs_below HT.out H1.out) (by omega) (fun e he => (HZ.out e he).1) (fun e he => (HZ.out e he).2))
  go_wp2_with fail
  refine HQ.out.mono ?_
  rintro e w2 ⟨q, rfl, h2, hq⟩
  have H2 := Lib.hid (bnext H1.out h2)
  have HQ2 := Lib.hid hq
  clear h2 hq HQ
  cases q
  · go_wp2_with fail
    go_ret
    exact ⟨rfl, H2.out⟩
  obtain ⟨h12, hn12, hgood⟩ := HQ2.out rfl
  have HN := Lib.hid hn12
  have HG := Lib.hid hgood
  clear hn12 hgood HQ2
  have hwa : IntKind.i64.wrap a = a := by simp [IntKind.wrap, IntKind.bits, IntKind.signed]; omega
  by_cases hal : a ≤ es.length
  · have q1 : ¬ (es.length : Int) < a := by omega
    go_wp2_with fail
    have HH2 := Lib.hid (H.out.now H2.out)
    go_loopw [7, 8] (fun v i wr => ∃ (k : Nat) (W : Int), k ≤ es.length ∧ i = .int .i64 k ∧ v = .int .i64 W ∧ Hid (W = wantV (es.map St.names) k a f) ∧ Hid (∀ (j : Nat) (e : St), j < k → es[j]? = some e → e.is = false) ∧ wr = w2) (fun _ i _ => es.length - (intOf i).toNat)
    case atStart => exact ⟨0, -1, Nat.zero_le _, rfl, rfl, Lib.hid (want0 _ _ _).symm, Lib.hid (fun j e h => by omega), rfl⟩
    case round =>
      obtain ⟨k, W, hk, rfl, rfl, HW, HK, rfl⟩ := hrel
      by_cases hlt : k < es.length
      · have hlt' : (k : Int) < (es.length : Int) := by omega
        obtain ⟨b, off, An, cn, Ah, ch, rfl, hbB, hcn, hch, c0, c1, c2, c3⟩ := HH2.out.at_ hlt
        have HG2 := Lib.hid (List.getElem?_eq_getElem hlt)
        have hln := HN.out _ (List.getElem_mem hlt)
        have HST := Lib.hid (show wantV (es.map St.names) (k + 1) a f = innerV es.length k a f es[k].names (wantV (es.map St.names) k a f) es[k].names.length by
          have h := want_step (l := es.map St.names) (i := k) (a := a) (f := f) (by simpa using hlt)
          simp only [List.length_map, List.getElem_map] at h
          exact h)
        generalize es[k] = s at *
        have HNN := Lib.hid hcn
        clear hcn hch c1 c3
        cases hi : s.is with
        | true =>
          rw [hi] at c0
          go_wp2_with fail
          go_ret
          exact ⟨rfl, H2.out⟩
        | false =>
          rw [hi] at c0
          have HK2 := Lib.hid (show ∀ (j : Nat) (e : St), j < k + 1 → es[j]? = some e → e.is = false from fun j e hj he => by
            rcases Nat.lt_or_ge j k with h' | h'
            · exact HK.out j e h' he
            · obtain rfl : j = k := by omega
              rw [HG2.out] at he
              injection he with he
              rw [← he]
              exact hi)
          clear hi
          go_wp2_with fail
          go_loopw [7, 9] (fun v i wr2 => ∃ (j : Nat) (W2 : Int), j ≤ s.names.length ∧ i = .int .i64 j ∧ v = .int .i64 W2 ∧ Hid (W2 = innerV es.length k a f s.names W j) ∧ wr2 = wr) (fun _ i _ => s.names.length - (intOf i).toNat)
          case atStart => exact ⟨0, W, Nat.zero_le _, rfl, rfl, Lib.hid (inner0 _ _ _ _ _ _).symm, rfl⟩
          case round =>
            obtain ⟨j, W2, hj, rfl, rfl, HW2, rfl⟩ := hrel
            by_cases hjl : j < s.names.length
            · have hjl' : (j : Int) < (s.names.length : Int) := by omega
              obtain ⟨bn, on, rfl, hbn, cnj⟩ := HNN.out.at_ hjl
              have hws : IntKind.i64.wrap ((es.length : Int) - 1 - k) = (es.length : Int) - 1 - k := by simp [IntKind.wrap, IntKind.bits, IntKind.signed]; omega
              cases he : (s.names[j].toList == f.toList) with
              | false =>
                have HM := Lib.hid (inner_miss (n := es.length) (i := k) (a := a) (f := f) (ns := s.names) (old := W) hjl (.inl (ne_of_toList he)))
                go_wp2_with fail
                go_roundw
                case rel => exact ⟨j + 1, W2, by omega, by go_num, rfl, Lib.hid (HW2.out.trans HM.out.symm), trivial⟩
                case measure => simp [intOf]; omega
              | true =>
                by_cases ha : a ≤ (es.length : Int) - 1 - k
                · have HM := Lib.hid (inner_hit (n := es.length) (i := k) (a := a) (f := f) (ns := s.names) (old := W) hjl (eq_of_toList he) ha)
                  go_wp2_with fail
                  go_roundw
                  case rel => exact ⟨j + 1, (es.length : Int) - 1 - k, by omega, by go_num, rfl, Lib.hid HM.out.symm, trivial⟩
                  case measure => simp [intOf]; omega
                · have HM := Lib.hid (inner_miss (n := es.length) (i := k) (a := a) (f := f) (ns := s.names) (old := W) hjl (.inr ha))
                  go_wp2_with fail
                  go_roundw
                  case rel => exact ⟨j + 1, W2, by omega, by go_num, rfl, Lib.hid (HW2.out.trans HM.out.symm), trivial⟩
                  case measure => simp [intOf]; omega
            · obtain rfl : j = s.names.length := by omega
              have HWN := Lib.hid (show W2 = wantV (es.map St.names) (k + 1) a f by rw [HW2.out, HW.out, HST.out])
              go_wp2_with fail
              go_roundw
              case rel => exact ⟨k + 1, W2, by omega, by go_num, rfl, HWN, HK2, trivial⟩
              case measure => simp [intOf]; omega
      · obtain rfl : k = es.length := by omega
        have HE := Lib.hid (show W = (match ff (objsOf (es.map St.names)) a f with | some d => (d : Int) | none => -1) from HW.out.trans (by have h := want_end (es.map St.names) a f; rw [List.length_map] at h; exact h))
        have HKE := Lib.hid (show Kept es from fun j e he => HK.out j e (List.getElem?_eq_some_iff.1 he).1 he)
        go_wp2_with fail
        refine (ifind_any _ es a f wr HH2.out h12 HN.out HG.out HKE.out (fun e he => (HZ.out e he).1.2.2) HF.out ha0 (by omega)).mono ?_
        rintro e w4 ⟨at2, n2, rfl, hat2, h4⟩
        have HA2 := Lib.hid hat2
        have H4 := Lib.hid (bnext H2.out h4)
        clear hat2 h4
        have hE := HE.out
        cases e1 : ff (objsOf (es.map St.names)) a f with
        | none =>
          rw [e1] at hE
          simp only [] at hE
          subst hE
          go_wp2_with fail
          go_ret
          exact ⟨rfl, H4.out⟩
        | some d =>
          obtain rfl : at2 = (d : Int) := HA2.out d e1
          rw [e1] at hE
          simp only [] at hE
          have hd0 : (0 : Int) ≤ (d : Int) := by omega
          subst hE
          clear e1 HE HW HA2
          go_wp2_with fail
          go_ret
          exact ⟨rfl, H4.out⟩
  · have q1 : (es.length : Int) < a := by omega
    go_wp2_with fail
    go_ret
    exact ⟨rfl, H2.out⟩
end Go.Proofs.YtadehfoamdkcmaaDoor
