/- The contract of PartUnion: names bound to their places, the last place counts. -/
import Derived.Test.YtadehfoamdkcmaaUnC
namespace Go.Proofs.Ytadehfoamdkcmaa
open Go.RowKit Val
set_option linter.unusedSimpArgs false

theorem ThG.keep' {w w' : World} {b g x : Nat} (h : ThG w g x) (hm : ∀ C T fr, w.heap[b]? ≠ some (.cells C T fr)) (hg : w.grownBy w' (some b)) : ThG w' g x := by
  obtain ⟨h, h1, h2⟩ := h
  have n1 : g ≠ b := fun e => by subst e; exact hm _ _ _ h1
  have n2 : h ≠ b := fun e => by subst e; exact hm _ _ _ h2
  exact ⟨h, (hg.block g (Array.getElem?_eq_some_iff.1 h1).1 (by simpa using n1)).trans h1, (hg.block h (Array.getElem?_eq_some_iff.1 h2).1 (by simpa using n2)).trans h2⟩
theorem own_noCells {w : World} {P : Program} {k : TypeId} {R : Value → Option (DataW Unit × List MemPlace)} {b n : Nat} {D : DataW Unit} (h : w.ownsMap P k R b n D) : ∀ C T fr, w.heap[b]? ≠ some (.cells C T fr) := by
  obtain ⟨es, clock, h1, _⟩ := h
  intro C T fr e
  rw [h1] at e
  cases e
theorem iter_noCells {w : World} {P : Program} {k : TypeId} {R : Value → Option (DataW Unit × List MemPlace)} {b r n : Nat} {D : DataW Unit} {left : Lit → Bool} {cnt : Nat} (h : w.ranges P k R b r n D left cnt) : ∀ C T fr, w.heap[r]? ≠ some (.cells C T fr) := by
  obtain ⟨_, _, _, _, _, _, _, _, _, hit, _⟩ := h
  intro C T fr e
  rw [hit] at e
  cases e

def places (ns : List Nm) : List (Nm × Nat) := ns.zip (List.range ns.length)
theorem zip_places {V : Type} (d : V) (ns : List Nm) (gs : List V) (h : gs.length = ns.length) : ns.zip gs = (places ns).map fun p => (p.1, gs.getD p.2 d) := by
  apply List.ext_getElem?
  intro j
  unfold places
  by_cases hj : j < ns.length
  · rw [List.getElem?_eq_getElem (by simp; omega), List.getElem?_eq_getElem (by simp; omega)]
    simp [List.getD, List.getElem?_eq_getElem (show j < gs.length by omega)]
  · rw [List.getElem?_eq_none (by simp; omega), List.getElem?_eq_none (by simp; omega)]
theorem place_of {ns : List Nm} {gs : List Nat} (h : gs.length = ns.length) {x : Nm} {c : Nat} (hc : lastOf (ns.zip gs) x = some c) : ∃ j, lastOf (places ns) x = some j ∧ gs[j]? = some c ∧ j < ns.length := by
  rw [zip_places 0 ns gs h, lastOf_map (fun j => gs.getD j 0)] at hc
  cases hj : lastOf (places ns) x with
  | none => rw [hj] at hc; cases hc
  | some j =>
    rw [hj] at hc
    injection hc with hc
    have hm := lastOf_mem hj
    have hjl : j < ns.length := by
      have := (List.of_mem_zip hm).2
      simpa using this
    refine ⟨j, rfl, ?_, hjl⟩
    rw [← hc]
    simp [List.getD, List.getElem?_eq_getElem (show j < gs.length by omega)]
theorem place_none {ns : List Nm} {gs : List Nat} (h : gs.length = ns.length) {x : Nm} (hc : lastOf (ns.zip gs) x = none) : lastOf (places ns) x = none := by
  rw [zip_places 0 ns gs h, lastOf_map (fun j => gs.getD j 0)] at hc
  cases hj : lastOf (places ns) x with
  | none => rfl
  | some j => rw [hj] at hc; cases hc

theorem elI_mk (j : Nat) (hj : j ≤ 1000) : plainElem (H := Unit) Try.prog 3 (.int .i64 (j : Nat)) = some (litN j, []) := plainElem_int Try.underlying3 (by simp [Lit.wf, IntKind.min, IntKind.max, IntKind.bits, IntKind.signed]; omega)
theorem key9_of (x : Nm) (h : x.length ≤ maxLen) : keyOf Try.prog 9 (encStr x) = some (.string x) := by
  have := WideMaps.keyOf_string_mk (P := Try.prog) Try.underlying9 (s := ⟨x.toArray⟩) (by simpa [ByteArray.size] using h)
  simpa using this
theorem assert_num (v : Value) (w : World) : (Instr.typeAssert (.iface 47 v) 52 47 false).run Try.prog w = .ok v w := by kernel_rfl

/-- Each name that is there is bound to a number. -/
def NatMap (D : DataW Unit) : Prop := ∀ x, Maps.has D (.string x) = true → ∃ j : Nat, ∀ z, D.atKey (.string x) z = litN j
theorem natMap_empty : NatMap (.map []) := fun x h => by simp [Maps.has] at h
theorem natMap_put {D : DataW Unit} (hm : Maps.IsMap D) (h : NatMap D) (y : Nm) (j : Nat) : NatMap (D.put (.string y) (litN j)) := by
  intro x hx
  by_cases e : y = x
  · subst e
    exact ⟨j, fun z => Maps.atKey_put_same hm (key_str y) _ z⟩
  · have e2 : Lit.string x ≠ Lit.string y := fun h => by injection h with h; exact e h.symm
    rw [Maps.has_put_other e2] at hx
    obtain ⟨i, hi⟩ := h x hx
    exact ⟨i, fun z => by rw [Maps.atKey_put_other e2]; exact hi z⟩
theorem natMap_at {D : DataW Unit} (h : NatMap D) {x : Nm} {j : Nat} (hb : bind D x = some j) (z : DataW Unit) : D.atKey (.string x) z = litN j := by
  have hh : Maps.has D (.string x) = true := by rw [bind_has, hb]; rfl
  obtain ⟨i, hi⟩ := h x hh
  have := bind_at hi
  rw [hb] at this
  injection this with this
  rw [hi, this]

def PuP (ns : List Nm) (w : World) (e : Ending) (w' : World) : Prop := ∃ b n D, e = .returned (.map (some b)) ∧ w.heap.size ≤ b ∧ w'.ownsMap Try.prog 9 (plainElem Try.prog 3) b n D ∧ n ≤ ns.length ∧ (∀ x, bind D x = lastOf (places ns) x) ∧ NatMap D ∧ Below w.heap.size w w'
/-- Under way. -/
def PuL (ns : List Nm) (gs : List Nat) (D0 : DataW Unit) (bc r n0 b n : Nat) (w wr : World) : Prop := ∃ left cnt D m, wr.ranges Try.prog 40 elT bc r n0 D0 left cnt ∧ wr.ownsMap Try.prog 9 (plainElem Try.prog 3) b m D ∧ m + cnt ≤ ns.length ∧
  (∀ x, bind D x = if left (.string x) = true then none else lastOf (places ns) x) ∧ (∀ j g, gs[j]? = some g → ThG wr g (intW (j : Nat))) ∧ NatMap D ∧ Below n w wr

theorem intW_back (j : Nat) (hj : j ≤ 1000) (w : World) : (Go.convert 44 3 (.float .f64 (intW (j : Nat)))).run Try.prog w = .ok (.int .i64 (j : Nat)) w :=
  run_convert_float_int w _ _ _ _ _ _ (by kernel_rfl) (by kernel_rfl) (toI64 (val_intW _ (by omega)) (by omega) (by omega))
theorem orO_last (l l' : List (Nm × Nat)) (x : Nm) : orO (lastOf l' x) (lastOf l x) = lastOf (l ++ l') x := by
  rw [lastOf_append]
  unfold orO
  cases lastOf l' x <;> rfl
theorem puL_step {P : List (Nm × Nat)} {left : Lit → Bool} {D : DataW Unit} {x : Nm} {j : Nat} (hm : Maps.IsMap D) (hj : lastOf P x = some j)
    (h : ∀ x, bind D x = if left (.string x) = true then none else lastOf P x) (y : Nm) :
    bind (D.put (.string x) (litN j)) y = if (left (.string y) && !(Lit.string y).sameKey (.string x)) = true then none else lastOf P y := by
  rw [bind_put hm, h]
  by_cases e : x = y
  · subst e
    rw [WideAt.sameKey_self (key_str x), hj]
    simp
  · have e2 : Lit.string y ≠ Lit.string x := fun h => by injection h with h; exact e h.symm
    rw [Maps.sameKey_ne e2]
    simp [e]

set_option maxRecDepth 100000 in
set_option maxHeartbeats 2000000 in
theorem part_any (ns ms : List ByteArray) (N : List Nm) (hN : N = (ns ++ ms).map nm) (av bv : Value) (w : World) (ha : RowV w w.heap.size av (strs ns)) (hb : RowV w w.heap.size bv (strs ms)) (la : ns.length ≤ 60) (lb : ms.length ≤ 60) (za : ∀ s ∈ ns, s.size ≤ maxLen) (zb : ∀ s ∈ ms, s.size ≤ maxLen) :
    Calls Try.prog 9 #[av, bv] w (PuP N w) := by
  have HN := Lib.hid hN
  clear hN
  have hm := mkmap32
  have has := assert_num
  have hb0 : Below w.heap.size w (w.alloc (.map #[] 0)) := (Below.refl _ _).alloc (Nat.le_refl _) _
  obtain ⟨A, c, rfl⟩ := ha.form
  have HFA := Lib.hid (frame_any ns _ 0 _ ((ha.below hb0 (Nat.le_refl _)).more hb0.size) (by omega) (by omega) za)
  have HFB := Lib.hid (fun w1 (h1 : Below (w.alloc (.map #[] 0)).heap.size (w.alloc (.map #[] 0)) w1) => frame_any ms _ ns.length w1 (((hb.below hb0 (Nat.le_refl _)).more hb0.size).below h1 (Nat.le_refl _) |>.more h1.size) (by omega) (by omega) zb)
  clear ha hb za zb
  go_enter Try.func9, Try.ntmps9
  go_wp2_with fail
  refine HFA.out.mono ?_
  rintro e w1 ⟨b1, D1, gs1, rfl, hb1n, ho1, hl1, hd1, ht1, hb1⟩
  have HX1 := Lib.hid (And.intro ho1 (And.intro hd1 ht1))
  have HL1 := Lib.hid hl1
  have HFB1 := Lib.hid (HFB.out w1 hb1)
  have HB1 := Lib.hid hb1
  clear ho1 hd1 ht1 hb1 hl1
  go_wp2_with fail
  refine HFB1.out.mono ?_
  rintro e w2 ⟨b2, D2, gs2, rfl, hb2n, ho2, hl2, hd2, ht2, hb2⟩
  have HADD := Lib.hid (add_any b1 b2 ns.length ms.length D1 D2 w2 (own_below HX1.out.1 hb2) ho2 (by omega))
  have HX2 := Lib.hid (And.intro hd2 ht2)
  have HL2 := Lib.hid hl2
  have HB2 := Lib.hid hb2
  clear ho2 hd2 ht2 hb2 hl2
  go_wp2_with fail
  refine HADD.out.mono ?_
  rintro e w3 ⟨b3, D3, rfl, hb3n, ho3, hd3, hb3⟩
  have HO3 := Lib.hid ho3
  have HD3 := Lib.hid hd3
  have HB3 := Lib.hid hb3
  clear ho3 hd3 hb3
  go_wp2_with (at_range; refine wpList_range_own _ rfl _ 37 rfl 40 41 keyed40 Try.underlying37 _ b3 (ns.length + ms.length) D3 rfl HO3.out ?_; intro w4 hrg4 hg4 hs4)
  go_frame
  have hbw3 : Below w.heap.size w w3 := bnext (bnext (hb0.trans (HB1.out.mono hb0.size)) HB2.out) HB3.out
  have hgl : (gs1 ++ gs2).length = N.length := by rw [HN.out, List.length_append, HL1.out, HL2.out, List.length_map, List.length_append]
  have hbind : ∀ x, bind D3 x = lastOf (N.zip (gs1 ++ gs2)) x := fun x => by
    rw [HN.out, HD3.out x, HX2.out.1 x, HX1.out.2.1 x, orO_last, List.map_append, List.zip_append (by rw [HL1.out, List.length_map])]
  have hth4 : ∀ j g, (gs1 ++ gs2)[j]? = some g → ThG w4 g (intW (j : Nat)) := fun j g hj => by
    have hb34 : Below w3.heap.size w3 w4 := (Below.refl _ _).grown hg4 (Nat.le_refl _) (fun j hj => by cases hj)
    rcases Nat.lt_or_ge j ns.length with h | h
    · rw [List.getElem?_append_left (by rw [HL1.out]; exact h)] at hj
      have := HX1.out.2.2 j g hj
      rw [Nat.zero_add] at this
      exact ((this.below HB2.out).below HB3.out).below hb34
    · rw [List.getElem?_append_right (by rw [HL1.out]; exact h), HL1.out] at hj
      have := HX2.out.2 (j - ns.length) g hj
      rw [show ns.length + (j - ns.length) = j by omega] at this
      exact (this.below HB3.out).below hb34
  have hM : (w.alloc (.map #[] 0)).ownsMap Try.prog 9 (plainElem Try.prog 3) w.heap.size 0 (.map [] : DataW Unit) := World.ownsMap_made w Try.prog 9 (plainElem Try.prog 3)
  have hM4 := (own_below (own_below (own_below hM HB1.out) HB2.out) HB3.out).kept hg4 (by simp)
  have hnl : N.length = ns.length + ms.length := by rw [HN.out, List.length_map, List.length_append]
  have hw3 : w.heap.size < w3.heap.size := Nat.lt_of_lt_of_le (show w.heap.size < (w.alloc (.map #[] 0)).heap.size by simp) (Nat.le_trans HB1.out.size (Nat.le_trans HB2.out.size HB3.out.size))
  have HS := Lib.hid (show PuL N (gs1 ++ gs2) D3 b3 w3.heap.size (ns.length + ms.length) w.heap.size w.heap.size w w4 from by
    refine ⟨_, _, _, _, hrg4, hM4, by have := own_size HO3.out; omega, fun x => ?_, hth4, natMap_empty, hbw3.grown hg4 hbw3.size (fun j hj => by cases hj)⟩
    rw [bind_empty, bind_has, hbind]
    cases h : lastOf (N.zip (gs1 ++ gs2)) x with
    | none => rw [place_none hgl h]; simp
    | some c => simp)
  have HBI := Lib.hid hbind
  have HGL := Lib.hid hgl
  have hb3w : b3 ≠ w.heap.size := by have := HB2.out.size; have := HB1.out.size; simp at this; omega
  generalize gs1 ++ gs2 = gs at HS HBI HGL
  have HNL := Lib.hid hnl
  clear hbind hth4 hM hM4 hnl hgl hrg4 hg4 hs4 hbw3 HX1 HX2 HB1 HB2 HB3 HD3 HO3 HADD HFB1 HL1 HL2 HFA HFB hb0
  generalize w3.heap.size = r at HS hw3 ⊢
  go_loopw [6] (fun _ wr => Hid (PuL N gs D3 b3 r (ns.length + ms.length) w.heap.size w.heap.size w wr)) (fun _ wr => wr.rangeLeft b3 r)
  case atStart => exact HS
  case round =>
    obtain ⟨left, cnt, D, m, hrg, hown, hlim, hf, hth, hnm, hbl⟩ := hrel.out
    have HNM := Lib.hid hnm
    have HF := Lib.hid hf
    have HT := Lib.hid hth
    have HBL := Lib.hid hbl
    have hsz := hbl.size
    clear hf hbl hrel hth hnm
    go_wp2_with (at_next; refine wpList_next_ranges _ rfl _ rfl 40 keyed40 elT encStr ptr key40_inv el40_inv b3 _ _ _ _ _ rfl hrg ?_ ?_)
    · intro hc0 hl0
      go_wp2_with fail
      go_ret
      exact ⟨_, m, D, rfl, Nat.le_refl _, hown, by omega, fun x => by rw [HF.out x, hl0]; simp, HNM.out, HBL.out⟩
    · intro x c kl yd yp w2 cnt2 hkey hlk hv hat hrg2 hlt hg2 hs2 hen
      obtain ⟨x', ex, rfl, hxl⟩ := Maps.keyOf_str Try.underlying40 hkey
      obtain rfl : x = x' := encStr_inj ex
      rw [elT_mk] at hv
      injection hv with hv
      injection hv with h1 h2
      subst h1 h2
      obtain ⟨j, hj, hjg, hjl⟩ := place_of HGL.out ((HBI.out x).symm.trans (bind_at hat))
      have hj1000 : j ≤ 1000 := by have := HNL.out; omega
      have hown2 := hown.kept hg2 (by simp; omega)
      obtain ⟨h, c2, c0⟩ := (HT.out j c hjg).keep' (iter_noCells hrg) hg2
      have g2 : w2.cell? ⟨c, 2, none⟩ = some (.iface 47 (.pointer (some ⟨h, 0, none⟩))) := by rw [heap_cell c2]; rfl
      have g0 : w2.cell? ⟨h, 0, none⟩ = some (.float .f64 (intW (j : Nat))) := by rw [heap_cell c0]; rfl
      have hcx := intW_back j hj1000
      have hkey9 := key9_of x hxl
      have HX := Lib.hid hs2
      have HJ := Lib.hid hj
      have HL := Lib.hid hrg.left_eq
      have HT2 := Lib.hid (fun j g hj => (HT.out j g hj).keep' (iter_noCells hrg) hg2)
      have hlim2 : m < maxLen := by have := HNL.out; unfold maxLen; omega
      clear hs2 ex hrg hj c2 c0 hjg
      go_wp2_with (at_mapUpdate; refine wpList_mapUpdate_own _ rfl _ _ _ 32 rfl 9 3 keyed9 Try.underlying32 _ w.heap.size m D rfl hown2 hlim2 _ _ (.string x) rfl rfl hkey9 (litN j) [] (elI_mk j hj1000) ?_; intro w3 hown3 hg3; go_frame)
      have hrg3 := hrg2.kept hg3 (by simp; omega) (by simp; omega)
      have hS : PuL N gs D3 b3 r (ns.length + ms.length) w.heap.size w.heap.size w w3 :=
        ⟨_, _, _, _, hrg3, hown3, by omega, fun y => puL_step (own_isMap hown2) HJ.out HF.out y, fun j g hj => (HT2.out j g hj).keep' (own_noCells hown2) hg3, natMap_put (own_isMap hown2) HNM.out x j, (HBL.out.grown hg2 hsz (fun j hj => by cases hj; omega)).grown hg3 (by have := HX.out; omega) (fun j hj => by cases hj; omega)⟩
      have HS3 := Lib.hid hS
      have HM := Lib.hid hrg3.left_eq
      clear hS hrg3 hown3 hg3 hown2 hrg2 hg2
      go_roundw
      case rel => exact HS3
      case measure => rw [HM.out, HL.out]; exact hlt
end Go.Proofs.Ytadehfoamdkcmaa
