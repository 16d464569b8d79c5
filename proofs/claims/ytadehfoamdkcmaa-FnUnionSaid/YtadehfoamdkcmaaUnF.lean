/- The contract of spec.boundTo: ascending names with one more, or one that is bound otherwise. -/
import Derived.Test.YtadehfoamdkcmaaUnE
import Derived.Deep.RegionLaw
import Derived.BigRegion
import Derived.Lib.BufferOwn
namespace Go.Proofs.Ytadehfoamdkcmaa
open Go.RowKit Val
set_option linter.unusedSimpArgs false

def strOfN (x : Nm) : ByteArray := ⟨x.toArray⟩
theorem encStr_strOfN (x : Nm) : encStr x = .string (strOfN x) := rfl
theorem less_str (x k : Nm) : Op.bytesLess (strOfN x).toList (strOfN k).toList = decide (x < k) := by
  rw [bytesLess_eq, Lib.toList_data, Lib.toList_data]
  rfl
theorem eq_str (x k : Nm) : ((strOfN x).toList == (strOfN k).toList) = decide (x = k) := by
  rw [Lib.toList_data, Lib.toList_data]
  show (x == k) = _
  rw [Bool.eq_iff_iff]
  simp

def nms (L : List (Nm × Int)) : List Value := L.map fun p => encStr p.1
def vls (L : List (Nm × Int)) : List Value := ints (L.map Prod.snd)
theorem nms_len (L : List (Nm × Int)) : (nms L).length = L.length := by simp [nms]
theorem vls_len (L : List (Nm × Int)) : (vls L).length = L.length := by simp [vls, ints]
theorem nms_snoc (L : List (Nm × Int)) (p : Nm × Int) : nms (L ++ [p]) = nms L ++ [encStr p.1] := by simp [nms]
theorem vls_snoc (L : List (Nm × Int)) (p : Nm × Int) : vls (L ++ [p]) = vls L ++ [.int .i64 p.2] := by simp [vls, ints]

/-- Names and numbers, in two rows of the call's own. -/
structure TwoOwn (st : List (Nm × Int)) (B : Nat) (v1 v2 : Value) (w wr : World) : Prop where
  n : wr.ownsRow B 9 1 v1 st.length (nms st)
  v : wr.ownsRow B 3 1 v2 st.length (vls st)
  b : Below B w wr
  s : B ≤ wr.heap.size

theorem own_apart {w : World} {B B' n m : Nat} {v v' : Value} {xs ys : List Value} (h : w.ownsRow B 9 1 v n xs) (h' : w.ownsRow B' 3 1 v' m ys) : v.ownBlock = none ∨ v.ownBlock ≠ v'.ownBlock := by
  rcases h.2 with ⟨rfl, _⟩ | ⟨g, cap, cur, rfl, _, hb, _⟩
  · exact .inl rfl
  · refine .inr fun e => ?_
    rcases h'.2 with ⟨rfl, _⟩ | ⟨g', cap', cur', rfl, _, hb', _⟩
    · simp [Value.ownBlock] at e
    · have : g = g' := by simpa [Value.ownBlock] using e
      subst this
      rw [hb] at hb'
      injection hb' with hb'
      injection hb' with _ ht
      exact absurd ht (by decide)
theorem own_apart' {w : World} {B B' n m : Nat} {v v' : Value} {xs ys : List Value} (h : w.ownsRow B 3 1 v n xs) (h' : w.ownsRow B' 9 1 v' m ys) : v.ownBlock = none ∨ v.ownBlock ≠ v'.ownBlock := by
  rcases own_apart h' h with e | e
  · by_cases h0 : v.ownBlock = none
    · exact .inl h0
    · exact .inr (by rw [e]; exact h0)
  · exact .inr (Ne.symm e)

/-- One name and one number more. -/
theorem TwoOwn.push {st : List (Nm × Int)} {B : Nat} {v1 v2 : Value} {w wr W5 w5 W7 w7 : World} {A c A' c'} {p : Nm × Int} {s : Value} (hs : encStr p.1 = s) (h : TwoOwn st B v1 v2 w wr) (hg5 : wr.grownBy W5 none) (h5 : Appended W5 B 9 1 v1 (st.length + 1) (nms st ++ [s]) A c w5)
    (hg7 : w5.grownBy W7 none) (h7 : Appended W7 B 3 1 v2 (st.length + 1) (vls st ++ [.int .i64 p.2]) A' c' w7) : TwoOwn (st ++ [p]) B (.slice A (st.length + 1) c) (.slice A' (st.length + 1) c') w w7 := by
  subst hs
  have hl : (st ++ [p]).length = st.length + 1 := by simp
  have n5 := h.n.kept hg5 (Classical.em _)
  have v5 := h.v.kept hg5 (Classical.em _)
  have v6 := v5.kept h5.grown (own_apart' v5 n5)
  have n6 := h5.own.kept hg7 (Classical.em _)
  have v7 := v6.kept hg7 (Classical.em _)
  refine ⟨by rw [hl, nms_snoc]; exact n6.kept h7.grown (own_apart n6 v7), by rw [hl, vls_snoc]; exact h7.own, ?_, ?_⟩
  · have b5 := h.b.grown hg5 h.s (fun j hj => by cases hj)
    have s5 : B ≤ W5.heap.size := Nat.le_trans h.s hg5.size
    have b6 := b5.grown h5.grown s5 (fun j hj => (n5.lt j hj).1)
    have s6 : B ≤ w5.heap.size := Nat.le_trans s5 h5.grown.size
    have b7 := b6.grown hg7 s6 (fun j hj => by cases hj)
    exact b7.grown h7.grown (Nat.le_trans s6 hg7.size) (fun j hj => (v7.lt j hj).1)
  · exact Nat.le_trans h.s (Nat.le_trans hg5.size (Nat.le_trans h5.grown.size (Nat.le_trans hg7.size h7.grown.size)))

theorem news_before {w : World} {g : Nat} {cs : Array Value} {t : TypeId} {o : Obj} (hg : g = w.heap.size) : ∀ j u, cs.toList[j]? = some u → ((w.alloc (.cells cs t)).alloc o).cell? ((⟨g, 0, none⟩ : Addr).add j) = some u := by
  subst hg
  exact World.news_of_block (heap_after (heap_alloc_new w _) o)
theorem news_kept {w w' : World} {g : Nat} {xs : List Value} {row : Option Nat} (h : ∀ j u, xs[j]? = some u → w.cell? ((⟨g, 0, none⟩ : Addr).add j) = some u) (hg : w.grownBy w' row) (hne : some g ≠ row) : ∀ j u, xs[j]? = some u → w'.cell? ((⟨g, 0, none⟩ : Addr).add j) = some u := by
  intro j u hu
  have := h j u hu
  rw [add_plain'] at this ⊢
  exact hg.cell this hne
theorem grown1 (w : World) (o : Obj) : w.grownBy (w.alloc o) none := World.grownBy_alloc w o none
theorem grown2 (w : World) (o o' : Obj) : w.grownBy ((w.alloc o).alloc o') none := Lib.grownBy_trans (grown1 w o) (grown1 _ o')
theorem grown0 (w : World) : w.grownBy w none := ⟨rfl, rfl, rfl, Nat.le_refl _, fun _ _ _ => rfl⟩

theorem grownD {w W : World} (h : w.grownBy W none) : w.grownBy W.drew none := ⟨h.os, h.tape, h.output, h.size, h.block⟩
theorem TwoOwn.first {st : List (Nm × Int)} {B m : Nat} {v1 v2 : Value} {w wr W5 w5 : World} {A c} {xs : List Value} (h : TwoOwn st B v1 v2 w wr) (hg5 : wr.grownBy W5 none) (h5 : Appended W5 B 9 1 v1 m xs A c w5) : w5.ownsRow B 3 1 v2 st.length (vls st) ∧ B ≤ w5.heap.size := by
  have n5 := h.n.kept hg5 (Classical.em _)
  have v5 := h.v.kept hg5 (Classical.em _)
  exact ⟨v5.kept h5.grown (own_apart' v5 n5), Nat.le_trans h.s (Nat.le_trans hg5.size h5.grown.size)⟩

theorem bst_len1 (k : Nm) (n : Int) (s : List (Nm × Int) × Bool) (p : Nm × Int) : (bst k n s p).1.length ≤ s.1.length + 2 := by
  show (if p.1 = k then (if s.2 = false ∧ ¬ p.1 < k then s.1 ++ [(k, n)] else s.1) else (if s.2 = false ∧ ¬ p.1 < k then s.1 ++ [(k, n)] else s.1) ++ [p]).length ≤ s.1.length + 2
  split <;> split <;> (try simp only [List.length_append, List.length_cons, List.length_nil]) <;> omega
theorem bst_len (k : Nm) (n : Int) : ∀ (L : List (Nm × Int)) (s : List (Nm × Int) × Bool), (L.foldl (bst k n) s).1.length ≤ s.1.length + 2 * L.length
  | [], s => by simp
  | p :: L, s => by
    have h := bst_len k n L (bst k n s p)
    have h2 := bst_len1 k n s p
    rw [List.foldl_cons, List.length_cons]
    omega
theorem bst_le (k : Nm) (n : Int) (L : List (Nm × Int)) (h : L.length ≤ 200) : (L.foldl (bst k n) ([], false)).1.length ≤ 400 := by
  have := bst_len k n L ([], false)
  simp only [List.length_nil] at this
  omega

def BtP (k : Nm) (n : Int) (L : List (Nm × Int)) (w : World) (e : Ending) (w' : World) : Prop := ∃ v1 v2, e = .returned (.tuple #[v1, v2]) ∧ RowV w' w'.heap.size v1 (nms (bnd k n L)) ∧ RowV w' w'.heap.size v2 (vls (bnd k n L)) ∧ Below w.heap.size w w'
def BtL (k : Nm) (n : Int) (L : List (Nm × Int)) (i : Nat) (d : Bool) (v1 v2 : Value) (w wr : World) : Prop := TwoOwn ((L.take i).foldl (bst k n) ([], false)).1 w.heap.size v1 v2 w wr ∧ ((L.take i).foldl (bst k n) ([], false)).2 = d

set_option maxRecDepth 100000 in
set_option maxHeartbeats 8000000 in
theorem boundTo_any (k : Nm) (n : Int) (L : List (Nm × Int)) (lv vv : Value) (w : World) (hl : RowV w w.heap.size lv (nms L)) (hv : RowV w w.heap.size vv (vls L)) (h200 : L.length ≤ 200) :
    Calls Try.prog 11 #[lv, vv, encStr k, .int .i64 n] w (BtP k n L w) := by
  obtain ⟨A0, c0, rfl⟩ := hl.form'
  obtain ⟨A1, c1, rfl⟩ := hv.form'
  rw [nms_len, vls_len] at *
  obtain ⟨i0, hi, hz0, hz1, hz2⟩ := info_parts str_info
  obtain ⟨j0, ji, jz0, jz1, jz2⟩ := info_parts int_info
  have HL := Lib.hid hl
  have HV := Lib.hid hv
  clear hl hv
  rw [encStr_strOfN]
  have HLS := Lib.hid (less_str · k)
  have HES := Lib.hid (eq_str · k)
  have HSK := Lib.hid (encStr_strOfN k)
  generalize strOfN k = sk at *
  go_enter Try.func11, Try.ntmps11
  go_wp2_with fail
  have HS := Lib.hid (show BtL k n L 0 false (.slice none 0 0) (.slice none 0 0) w w from ⟨⟨⟨rfl, .inl ⟨rfl, rfl⟩⟩, ⟨rfl, .inl ⟨rfl, rfl⟩⟩, Below.refl _ _, Nat.le_refl _⟩, rfl⟩)
  go_loopw [10, 11, 12, 13] (fun v1 v2 dv iv wr => ∃ (i : Nat) (d : Bool), i ≤ L.length ∧ iv = .int .i64 i ∧ dv = .bool d ∧ Hid (BtL k n L i d v1 v2 w wr)) (fun _ _ _ iv _ => L.length - (intOf iv).toNat)
  case atStart => exact ⟨0, false, Nat.zero_le _, rfl, rfl, HS⟩
  case round =>
    obtain ⟨i, d, hi', rfl, rfl, HB⟩ := hrel
    by_cases hlt : i < L.length
    · have hlt' : (i : Int) < (L.length : Int) := by omega
      obtain ⟨hown, hd⟩ := HB.out
      have HST := Lib.hid (show (L.take (i + 1)).foldl (bst k n) ([], false) = bst k n ((L.take i).foldl (bst k n) ([], false)) L[i] by rw [take_snoc _ _ hlt, bst_snoc])
      have hal : ((L.take i).foldl (bst k n) ([], false)).1.length ≤ 400 := bst_le k n _ (Nat.le_trans (List.length_take_le _ _) (by omega))
      obtain ⟨b8, o8, rfl, hb8, hc8⟩ := (HL.out.below hown.b (Nat.le_refl _)).get (k := i) (u := encStr L[i].1) (by simp [nms, hlt])
      obtain ⟨b6, o6, rfl, hb6, hc6⟩ := (HV.out.below hown.b (Nat.le_refl _)).get (k := i) (u := .int .i64 L[i].2) (by simp [vls, ints, hlt])
      have t1 := HLS.out L[i].1
      have t2 := HES.out L[i].1
      rw [encStr_strOfN] at hc8
      have HSX := Lib.hid (encStr_strOfN L[i].1)
      generalize strOfN L[i].1 = sx at *
      generalize L[i] = p at *
      obtain ⟨x, y⟩ := p
      generalize hst : (L.take i).foldl (bst k n) ([], false) = st at *
      obtain ⟨acc, d'⟩ := st
      obtain rfl : d' = d := hd
      simp only at hown hal t1 t2 hc6
      have HOW := Lib.hid hown
      have HRST := Lib.hid hst
      have hws := hown.s
      have hneN : ∀ g, wr.heap.size ≤ g → some g ≠ u10.ownBlock := fun g hg e => by have := (hown.n.lt g e.symm).2; omega
      have HNN := Lib.hid hneN
      have HN1 := Lib.hid (show ∀ g, g < w.heap.size → some g ≠ u10.ownBlock from fun g hg e => by have := (hown.n.lt g e.symm).1; omega)
      have HN2 := Lib.hid (show ∀ g, g < w.heap.size → some g ≠ u11.ownBlock from fun g hg e => by have := (hown.v.lt g e.symm).1; omega)
      clear hst hown hneN HB HLS HES
      by_cases hA : x ≠ k ∧ (x < k ∨ d' = true)
      · obtain ⟨hxk, hA⟩ := hA
        have t2' : (sx.toList == sk.toList) = false := by rw [t2]; simpa using hxk
        obtain ⟨A10, c10, rfl⟩ := own_form HOW.out.n
        obtain ⟨A11, c11, rfl⟩ := own_form HOW.out.v
        have hnew : bst k n (acc, d') (x, y) = (acc ++ [(x, y)], d') := by
          rcases hA with h | h
          · simp [bst, h, hxk]
          · simp [bst, h, hxk]
        have HNEW := Lib.hid (HST.out.trans hnew)
        have t1' : d' = false → Op.bytesLess sx.toList sk.toList = true := fun h => by
          rw [t1]
          rcases hA with h' | h'
          · simpa using h'
          · rw [h] at h'; cases h'
        clear t1 t2 hnew hA hxk HST
        have T1 := Lib.hid t1'
        clear t1'
        cases d'
        all_goals
          try have t1' := T1.out rfl
          clear T1
          go_wp2_with fail
          go_region_held3 (fun w' => w'.cell? ⟨b8, o8 + i, none⟩ = some (.string sx) ∧ w'.cell? ⟨b6, o6 + i, none⟩ = some (.int .i64 y))
            (first
              | go_keep
              | ((try dsimp only); refine ⟨?_, ?_⟩ <;> first | go_keep | (refine hap5.grown.cell ?_ (by first | exact HN1.out _ hb8 | exact HN1.out _ hb6); first | assumption | go_keep) | (refine hap7.grown.cell ?_ (by first | exact HN2.out _ hb8 | exact HN2.out _ hb6); first | assumption | go_keep)))
            (first
              | (refine step_append_rowV _ (by rfl) (.tmp 51) (.tmp 56) _ (by rfl) w.heap.size 3 j0 _ 1 8 Try.underlying23 ji jz0 jz1 jz2 rfl (by omega) (.slice A11 acc.length c11) acc.length (vls acc) (by rfl) (by first | exact HV5.out.1 | exact HV5.out.1.alloc _) _ 1 1 [.int .i64 y] (by rfl) rfl (fun _ => ⟨_, rfl, by first | exact news_at (by simp) | exact news_kept (by first | exact news_at (by simp) | exact news_before (by simp)) hap5.grown (HNN.out _ (by simp))⟩) (by simp [Value.oneCell']) (by unfold maxLen; omega) (by omega) (by first | exact HV5.out.2 | (rw [World.size_alloc]; exact Nat.le_succ_of_le HV5.out.2)) ?_; intro A7 c7 w7 hap7)
              | (refine step_append_rowV _ (by rfl) (.tmp 44) (.tmp 49) _ (by rfl) w.heap.size 9 i0 _ 1 16 Try.underlying22 hi hz0 hz1 hz2 rfl (by omega) (.slice A10 acc.length c10) acc.length (nms acc) (by rfl) (by first | exact HOW.out.n.alloc _ | exact (HOW.out.n.alloc _).alloc _) _ 1 1 [.string sx] (by rfl) rfl (fun _ => ⟨_, rfl, by first | exact news_at (by simp) | exact news_before (by simp)⟩) (by simp [Value.oneCell']) (by unfold maxLen; omega) (by omega) (by simp; omega) ?_; intro A5 c5 w5 hap5; have HV5 := Lib.hid (HOW.out.first (by first | exact grownD (grown1 _ _) | exact grownD (grown2 _ _ _)) hap5)))
          all_goals
            have hT := HOW.out.push (p := (x, y)) HSX.out (by first | exact grownD (grown1 _ _) | exact grownD (grown2 _ _ _)) hap5 (by first | exact grown0 _ | exact grown1 _ _) hap7
            have hS : BtL k n L (i + 1) _ (.slice A5 (acc.length + 1) c5) (.slice A7 (acc.length + 1) c7) w w7 := ⟨by rw [HNEW.out]; exact hT, by rw [HNEW.out]⟩
            have HS3 := Lib.hid hS
            clear hT hS hap5 hap7
            go_wp2_with fail
            go_roundw
            case rel => exact ⟨i + 1, _, by omega, by go_num, rfl, HS3⟩
            case measure => simp [intOf]; omega
      · have hxk0 : ¬ x < k := fun h => hA ⟨fun e => by subst e; exact lt_irr _ h, .inl h⟩
        obtain ⟨A10, c10, rfl⟩ := own_form HOW.out.n
        obtain ⟨A11, c11, rfl⟩ := own_form HOW.out.v
        cases d' with
        | true =>
          obtain rfl : x = k := by
            by_cases e : x = k
            · exact e
            · exact absurd ⟨e, .inr rfl⟩ hA
          have t2' : (sx.toList == sk.toList) = true := by rw [t2]; simp
          have HNEW := Lib.hid (HST.out.trans (show bst x n (acc, true) (x, y) = (acc, true) by simp [bst]))
          clear t1 t2 hA hxk0 HST
          have HS3 := Lib.hid (show BtL x n L (i + 1) true _ _ w wr from ⟨by rw [HNEW.out]; exact HOW.out, by rw [HNEW.out]⟩)
          go_wp2_with fail
          go_roundw
          case rel => exact ⟨i + 1, _, by omega, by go_num, rfl, HS3⟩
          case measure => simp [intOf]; omega
        | false =>
          have t1' : Op.bytesLess sx.toList sk.toList = false := by rw [t1]; simpa using hxk0
          have HT2 := Lib.hid t2
          have hb1 : w.heap.size ≤ (wr.alloc (.cells #[.string sk] 9)).heap.size := by rw [World.size_alloc]; omega
          have HNEW := Lib.hid HST.out
          clear t1 t2 hA HST
          go_wp2_with (first
            | (at_builtin; refine wpList_append_rowV _ rfl (Operand.tmp 30) (Operand.tmp 32) 22 rfl w.heap.size 9 i0 (.string ⟨#[]⟩) 1 16 Try.underlying22 hi hz0 hz1 hz2 rfl (by decide) (.slice A10 acc.length c10) acc.length (nms acc) rfl (HOW.out.n.alloc _) (some ⟨wr.heap.size, 0, none⟩) 1 1 [.string sk] rfl rfl (fun _ => ⟨_, rfl, news_at rfl⟩) (by simp [Value.oneCell']) (by unfold maxLen; omega) (by omega) hb1 ?_; intro A5 c5 w5 hap5; have HV5 := Lib.hid (HOW.out.first (grown1 _ _) hap5); have hb2 : w.heap.size ≤ (w5.alloc (.cells #[.int .i64 n] 3)).heap.size := by { rw [World.size_alloc]; exact Nat.le_succ_of_le HV5.out.2 })
            | (at_builtin; refine wpList_append_rowV _ rfl (Operand.tmp 34) (Operand.tmp 36) 23 rfl w.heap.size 3 j0 (.int .i64 0) 1 8 Try.underlying23 ji jz0 jz1 jz2 rfl (by decide) (.slice A11 acc.length c11) acc.length (vls acc) rfl (HV5.out.1.alloc _) (some ⟨w5.heap.size, 0, none⟩) 1 1 [.int .i64 n] rfl rfl (fun _ => ⟨_, rfl, news_at rfl⟩) (by simp [Value.oneCell']) (by unfold maxLen; omega) (by omega) hb2 ?_; intro A7 c7 w7 hap7; refine Hid.out ?_))
          have hT := HOW.out.push (p := (k, n)) HSK.out (grown1 _ _) hap5 (grown1 _ _) hap7
          have hc8' : w7.cell? ⟨b8, o8 + i, none⟩ = some (.string sx) := (hT.b.cell (p := ⟨b8, o8 + i, none⟩) hb8).trans ((HOW.out.b.cell (p := ⟨b8, o8 + i, none⟩) hb8).symm.trans hc8)
          have hc6' : w7.cell? ⟨b6, o6 + i, none⟩ = some (.int .i64 y) := (hT.b.cell (p := ⟨b6, o6 + i, none⟩) hb6).trans ((HOW.out.b.cell (p := ⟨b6, o6 + i, none⟩) hb6).symm.trans hc6)
          have hws7 := hT.s
          have HOWn := Lib.hid hT
          have HTT := Lib.hid t1'
          clear hap5 hap7 hc8 hc6 HV5 hb1 hb2 hT HOW HNN HN1 HN2 t1'
          by_cases hxk : x = k
          · subst hxk
            have t2' : (sx.toList == sk.toList) = true := by rw [HT2.out]; simp
            have HS3 := Lib.hid (show BtL x n L (i + 1) true _ _ w w7 from by
              have hnew : bst x n (acc, false) (x, y) = (acc ++ [(x, n)], true) := by simp [bst, lt_irr]
              exact ⟨by rw [HNEW.out, hnew]; exact HOWn.out, by rw [HNEW.out, hnew]⟩)
            clear HOWn hxk0
            refine Lib.hid ?_
            go_wp2_with fail
            go_roundw
            case rel => exact ⟨i + 1, _, by omega, by go_num, rfl, HS3⟩
            case measure => simp [intOf]; omega
          · have t2' : (sx.toList == sk.toList) = false := by rw [HT2.out]; simpa using hxk
            have hnew : bst k n (acc, false) (x, y) = (acc ++ [(k, n)] ++ [(x, y)], true) := by simp [bst, hxk, hxk0]
            have hal2 : (acc ++ [(k, n)]).length ≤ 401 := by simp; omega
            have hlen : acc.length + 1 = (acc ++ [(k, n)]).length := by simp
            have HNEW2 := Lib.hid (HNEW.out.trans hnew)
            rw [hlen] at HOWn ⊢
            clear hlen hnew HNEW hxk hxk0
            generalize acc ++ [(k, n)] = acc2 at HOWn HNEW2 hal2 ⊢
            have HNN := Lib.hid (show ∀ g, w7.heap.size ≤ g → some g ≠ (Value.slice A5 acc2.length c5).ownBlock from fun g hg e => by have := (HOWn.out.n.lt g e.symm).2; omega)
            have HN1 := Lib.hid (show ∀ g, g < w.heap.size → some g ≠ (Value.slice A5 acc2.length c5).ownBlock from fun g hg e => by have := (HOWn.out.n.lt g e.symm).1; omega)
            have HN2 := Lib.hid (show ∀ g, g < w.heap.size → some g ≠ (Value.slice A7 acc2.length c7).ownBlock from fun g hg e => by have := (HOWn.out.v.lt g e.symm).1; omega)
            have HOW := HOWn
            clear HOWn
            obtain ⟨A10, rfl⟩ : ∃ A, A = A5 := ⟨_, rfl⟩
            obtain ⟨A11, rfl⟩ : ∃ A, A = A7 := ⟨_, rfl⟩
            obtain ⟨c10, rfl⟩ : ∃ A, A = c5 := ⟨_, rfl⟩
            obtain ⟨c11, rfl⟩ : ∃ A, A = c7 := ⟨_, rfl⟩
            refine Lib.hid ?_
            go_wp2_with fail
            go_region_held3 (fun w' => w'.cell? ⟨b8, o8 + i, none⟩ = some (.string sx) ∧ w'.cell? ⟨b6, o6 + i, none⟩ = some (.int .i64 y))
              (first
                | go_keep
                | ((try dsimp only); refine ⟨?_, ?_⟩ <;> first | go_keep | (refine hap5.grown.cell ?_ (by first | exact HN1.out _ hb8 | exact HN1.out _ hb6); first | assumption | go_keep) | (refine hap7.grown.cell ?_ (by first | exact HN2.out _ hb8 | exact HN2.out _ hb6); first | assumption | go_keep)))
              (first
                | (refine step_append_rowV _ (by rfl) (.tmp 51) (.tmp 56) _ (by rfl) w.heap.size 3 j0 _ 1 8 Try.underlying23 ji jz0 jz1 jz2 rfl (by omega) (.slice A11 acc2.length c11) acc2.length (vls acc2) (by rfl) (by first | exact HV5.out.1 | exact HV5.out.1.alloc _) _ 1 1 [.int .i64 y] (by rfl) rfl (fun _ => ⟨_, rfl, by first | exact news_at (by simp) | exact news_kept (by first | exact news_at (by simp) | exact news_before (by simp)) hap5.grown (HNN.out _ (by simp))⟩) (by simp [Value.oneCell']) (by unfold maxLen; omega) (by omega) (by first | exact HV5.out.2 | (rw [World.size_alloc]; exact Nat.le_succ_of_le HV5.out.2)) ?_; intro A7 c7 w7 hap7)
                | (refine step_append_rowV _ (by rfl) (.tmp 44) (.tmp 49) _ (by rfl) w.heap.size 9 i0 _ 1 16 Try.underlying22 hi hz0 hz1 hz2 rfl (by omega) (.slice A10 acc2.length c10) acc2.length (nms acc2) (by rfl) (by first | exact HOW.out.n.alloc _ | exact (HOW.out.n.alloc _).alloc _) _ 1 1 [.string sx] (by rfl) rfl (fun _ => ⟨_, rfl, by first | exact news_at (by simp) | exact news_before (by simp)⟩) (by simp [Value.oneCell']) (by unfold maxLen; omega) (by omega) (by simp; omega) ?_; intro A5 c5 w5 hap5; have HV5 := Lib.hid (HOW.out.first (by first | exact grownD (grown1 _ _) | exact grownD (grown2 _ _ _)) hap5)))
            all_goals
              have hT := HOW.out.push (p := (x, y)) HSX.out (by first | exact grownD (grown1 _ _) | exact grownD (grown2 _ _ _)) hap5 (by first | exact grown0 _ | exact grown1 _ _) hap7
              have hS : BtL k n L (i + 1) _ (.slice A5 (acc2.length + 1) c5) (.slice A7 (acc2.length + 1) c7) w w7 := ⟨by rw [HNEW2.out]; exact hT, by rw [HNEW2.out]⟩
              have HS3 := Lib.hid hS
              clear hT hS hap5 hap7
              go_wp2_with fail
              go_roundw
              case rel => exact ⟨i + 1, _, by omega, by go_num, rfl, HS3⟩
              case measure => simp [intOf]; omega
    · obtain rfl : i = L.length := by omega
      obtain ⟨hown, hd⟩ := HB.out
      rw [List.take_length] at hown hd
      have hal : (L.foldl (bst k n) ([], false)).1.length ≤ 400 := bst_le k n L h200
      have HBN := Lib.hid (show bnd k n L = if (L.foldl (bst k n) ([], false)).2 = true then (L.foldl (bst k n) ([], false)).1 else (L.foldl (bst k n) ([], false)).1 ++ [(k, n)] from rfl)
      generalize L.foldl (bst k n) ([], false) = st at *
      obtain ⟨acc, d'⟩ := st
      obtain rfl : d' = d := hd
      simp only at hown hal
      have HOW := Lib.hid hown
      have hws := hown.s
      clear hown HB HLS HES
      obtain ⟨A10, c10, rfl⟩ := own_form HOW.out.n
      obtain ⟨A11, c11, rfl⟩ := own_form HOW.out.v
      cases d' with
      | true =>
        go_wp2_with fail
        go_ret2
        have e : bnd k n L = acc := by rw [HBN.out]; simp
        have r1 := own_rowV HOW.out.n
        have r2 := own_rowV HOW.out.v
        exact ⟨_, _, rfl, by rw [e]; exact r1, by rw [e]; exact r2, HOW.out.b⟩
      | false =>
        have hb1 : w.heap.size ≤ (wr.alloc (.cells #[.string sk] 9)).heap.size := by rw [World.size_alloc]; omega
        go_wp2_with (first
          | (at_builtin; refine wpList_append_rowV _ rfl (Operand.tmp 60) (Operand.tmp 62) 22 rfl w.heap.size 9 i0 (.string ⟨#[]⟩) 1 16 Try.underlying22 hi hz0 hz1 hz2 rfl (by decide) (.slice A10 acc.length c10) acc.length (nms acc) rfl (HOW.out.n.alloc _) (some ⟨wr.heap.size, 0, none⟩) 1 1 [.string sk] rfl rfl (fun _ => ⟨_, rfl, news_at rfl⟩) (by simp [Value.oneCell']) (by unfold maxLen; omega) (by omega) hb1 ?_; intro A5 c5 w5 hap5; have HV5 := Lib.hid (HOW.out.first (grown1 _ _) hap5); have hb2 : w.heap.size ≤ (w5.alloc (.cells #[.int .i64 n] 3)).heap.size := by { rw [World.size_alloc]; exact Nat.le_succ_of_le HV5.out.2 })
          | (at_builtin; refine wpList_append_rowV _ rfl (Operand.tmp 64) (Operand.tmp 66) 23 rfl w.heap.size 3 j0 (.int .i64 0) 1 8 Try.underlying23 ji jz0 jz1 jz2 rfl (by decide) (.slice A11 acc.length c11) acc.length (vls acc) rfl (HV5.out.1.alloc _) (some ⟨w5.heap.size, 0, none⟩) 1 1 [.int .i64 n] rfl rfl (fun _ => ⟨_, rfl, news_at rfl⟩) (by simp [Value.oneCell']) (by unfold maxLen; omega) (by omega) hb2 ?_; intro A7 c7 w7 hap7; refine Hid.out ?_))
        have hT := HOW.out.push (p := (k, n)) HSK.out (grown1 _ _) hap5 (grown1 _ _) hap7
        have HT := Lib.hid hT
        clear hap5 hap7 hT HV5 hb1 hb2
        refine Lib.hid ?_
        go_wp2_with fail
        go_ret2
        have e : bnd k n L = acc ++ [(k, n)] := by rw [HBN.out]; simp
        have hl2 : (acc ++ [(k, n)]).length = acc.length + 1 := by simp
        have h1 := HT.out.n
        have h2 := HT.out.v
        rw [hl2] at h1 h2
        exact ⟨_, _, rfl, by rw [e]; exact own_rowV h1, by rw [e]; exact own_rowV h2, HT.out.b⟩
end Go.Proofs.Ytadehfoamdkcmaa
