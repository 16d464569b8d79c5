/- The contract of impl.Union: the names, ascending, and what each is bound to. -/
import Derived.Test.YtadehfoamdkcmaaUnD
import Derived.Test.YtadehfoamdkcmaaSh
namespace Go.Proofs.Ytadehfoamdkcmaa
open Go.RowKit Val
open Go.Sort (Holds)
set_option linter.unusedSimpArgs false

def ints (l : List Int) : List Value := l.map (Value.int .i64)
theorem ints_len (l : List Int) : (ints l).length = l.length := by simp [ints]
theorem str_info : (Try.prog.info? 9).map (fun i => (i.zero, i.size, i.bytes)) = some (some (.string ⟨#[]⟩), 1, 16) := by kernel_rfl
theorem int_info : (Try.prog.info? 3).map (fun i => (i.zero, i.size, i.bytes)) = some (some (.int .i64 0), 1, 8) := by kernel_rfl
theorem zero3 (w : World) : (zeroValue 3).run Try.prog w = .ok (.int .i64 0) w := by kernel_rfl
theorem RowV.formI {w : World} {B : Nat} {v : Value} {l : List Int} (h : RowV w B v (ints l)) : ∃ A c, v = .slice A l.length c := by
  obtain ⟨A, c, rfl, _⟩ := h
  exact ⟨A, c, by rw [ints_len]⟩

/-- The names that stand in N, with what they are bound to. -/
def UnP (N : List Nm) (all : List Int) (w : World) (e : Ending) (w' : World) : Prop := ∃ v1 v2, e = .returned (.tuple #[v1, v2, .bool true]) ∧ RowV w' w'.heap.size v1 ((united (N.zip all)).map fun p => encStr p.1) ∧ RowV w' w'.heap.size v2 (ints ((united (N.zip all)).map Prod.snd)) ∧ Below w.heap.size w w'

/-- The names that have come. -/
def UnL (D : DataW Unit) (bm r n B lim n0 : Nat) (v : Value) (w wr : World) : Prop := ∃ left cnt ss, wr.ranges Try.prog 9 (plainElem Try.prog 3) bm r n D left cnt ∧ ss.length + cnt ≤ lim ∧ wr.ownsRow B 9 1 v ss.length (ss.map encStr) ∧ Collected D left ss ∧ B ≤ wr.heap.size ∧ Below n0 w wr
def UnW (vals : List Int) (k : Nat) (v : Value) (W wr : World) : Prop := wr.ownsRow W.heap.size 3 1 v k (ints (vals.take k)) ∧ Below W.heap.size W wr
theorem ints_snoc (l : List Int) (x : Int) : ints (l ++ [x]) = ints l ++ [.int .i64 x] := by simp [ints]
theorem key9_inv : ∀ key kl, keyOf Try.prog 9 key = some kl → ∃ x, key = encStr x := fun key kl hk => by obtain ⟨x, hx, _⟩ := Maps.keyOf_str Try.underlying9 hk; exact ⟨x, hx⟩
theorem int3_inv : ∀ (v : Value) (y : DataW Unit × List MemPlace), plainElem Try.prog 3 v = some y → ∃ c : Int, v = .int .i64 c := fun _ _ hv => by obtain ⟨c, rfl, _⟩ := plainElem_int_inv Try.underlying3 hv; exact ⟨c, rfl⟩

/-! ### what comes out, plainly -/
def valOf (N : List Nm) (all : List Int) (s : Nm) : Int := (lastOf (N.zip all) s).getD 0
theorem un_at {N : List Nm} {all : List Int} (h : all.length = N.length) {D : DataW Unit} (hbd : ∀ x, bind D x = lastOf (places N) x) {left : Lit → Bool} {ss : List Nm} (hC : Collected D left ss) :
    ∀ s ∈ ss.mergeSort leB, ∃ j, bind D s = some j ∧ all[j]? = some (valOf N all s) := by
  intro s hs
  have hs2 : s ∈ ss := (List.mergeSort_perm ss leB).mem_iff.1 hs
  have hh := ((hC.2 s).1 hs2).1
  rw [bind_has] at hh
  cases hb : bind D s with
  | none => rw [hb] at hh; cases hh
  | some j =>
    refine ⟨j, rfl, ?_⟩
    have hp : lastOf (places N) s = some j := (hbd s).symm.trans hb
    have hjl : j < N.length := by
      have := (List.of_mem_zip (lastOf_mem hp)).2
      simpa using this
    unfold valOf
    rw [zip_places 0 N all h, lastOf_map (fun j => all.getD j 0), hp]
    simp [List.getD, List.getElem?_eq_getElem (show j < all.length by omega)]
theorem un_all {N : List Nm} {all : List Int} (h : all.length = N.length) {D : DataW Unit} (hbd : ∀ x, bind D x = lastOf (places N) x) {left : Lit → Bool} {ss : List Nm} (hC : Collected D left ss) (hl : ∀ kl, left kl = false) :
    (ss.mergeSort leB).map (fun s => (s, valOf N all s)) = united (N.zip all) := by
  have hz : ∀ s, lastOf (N.zip all) s = (lastOf (places N) s).map fun j => all.getD j 0 := fun s => by
    rw [zip_places 0 N all h, lastOf_map (fun j => all.getD j 0)]
  refine sorted_united _ ss hC.1 (fun k => ?_) _ (by rw [List.map_map]; exact List.map_id' _) (fun p hp => ?_)
  · rw [hC.2 k, hl, bind_has, hbd, hz, Option.isSome_map]
    simp
  · obtain ⟨s, hs, rfl⟩ := List.mem_map.1 hp
    have hs2 : s ∈ ss := (List.mergeSort_perm ss leB).mem_iff.1 hs
    have hh := ((hC.2 s).1 hs2).1
    rw [bind_has, hbd] at hh
    have h2 : (lastOf (N.zip all) s).isSome = true := by rw [hz, Option.isSome_map]; exact hh
    show _ = some (valOf N all s)
    unfold valOf
    cases h3 : lastOf (N.zip all) s with
    | none => rw [h3] at h2; cases h2
    | some v => rfl

/-! ### the sort -/
def SoP (ss : List Nm) (v : Value) (B : Nat) (w : World) (e : Ending) (w' : World) : Prop := e = .returned (.tuple #[]) ∧ w'.ownsRow B 9 1 v ss.length ((ss.mergeSort leB).map encStr) ∧ w.grownBy w' v.ownBlock
theorem sort_any (ss : List Nm) (v : Value) (B : Nat) (w : World) (hl : ss.length ≤ 1000) (h : w.ownsRow B 9 1 v ss.length (ss.map encStr)) : Calls Try.prog 10 #[v] w (SoP ss v B w) := by
  have h0 := h
  rcases h.2 with ⟨rfl, hn⟩ | ⟨g, cap, cur, rfl, hbase, hb, h1, h2, h3, h4⟩
  · obtain rfl : ss = [] := by simpa using hn
    refine (Try.sort_Strings_none none 0 w).mono ?_
    rintro e w' ⟨rfl, rfl⟩
    exact ⟨rfl, by simpa using h0, ⟨rfl, rfl, rfl, Nat.le_refl _, fun _ _ _ => rfl⟩⟩
  · have hH : Holds encStr w g 0 ss.toArray := holds_of_block hb (by simpa using h4)
    refine (Try.sort_Strings g 0 cap ss w hH (Array.getElem?_eq_some_iff.1 hb).1 (by omega)).mono ?_
    rintro e w' ⟨rfl, nn, os, rfl⟩
    exact ⟨rfl, ownsRow_sorted (by simp) hbase hb h1 h2 h3, grownBy_sorted _⟩

theorem union_no (xs ys : List Int) (ns ms : List ByteArray) (nv xv mv yv : Value) (w : World) (hn : RowV w w.heap.size nv (strs ns)) (hx : RowV w w.heap.size xv (ints xs)) (hm : RowV w w.heap.size mv (strs ms)) (hy : RowV w w.heap.size yv (ints ys))
    (h : ns.length ≠ xs.length ∨ ms.length ≠ ys.length) : Calls Try.prog 5 #[nv, xv, mv, yv] w fun e w' => e = .returned (.tuple #[.slice none 0 0, .slice none 0 0, .bool false]) ∧ w = w' := by
  obtain ⟨A1, c1, rfl⟩ := hn.form
  obtain ⟨A2, c2, rfl⟩ := hx.formI
  obtain ⟨A3, c3, rfl⟩ := hm.form
  obtain ⟨A4, c4, rfl⟩ := hy.formI
  clear hn hx hm hy
  generalize ns.length = a at *
  generalize xs.length = b at *
  generalize ms.length = c at *
  generalize ys.length = d at *
  by_cases h1 : a = b
  · subst h1
    have h2 : (c == d) = false := by have := h.resolve_left (by simp); simpa using this
    have h2' : (c != d) = true := by simp only [bne, h2]; rfl
    clear h
    go_enter Try.func5, Try.ntmps5
    go_wp2
    go_ret3
    exact ⟨rfl, rfl⟩
  · have h2 : (a == b) = false := by simpa using h1
    have h2' : (a != b) = true := by simp only [bne, h2]; rfl
    clear h h1
    go_enter Try.func5, Try.ntmps5
    go_wp2
    all_goals
      go_ret3
      exact ⟨rfl, rfl⟩

set_option maxRecDepth 100000 in
set_option maxHeartbeats 4000000 in
theorem union_yes (xs ys : List Int) (ns ms : List ByteArray) (nv xv mv yv : Value) (w : World) (N : List Nm) (hN : N = (ns ++ ms).map nm) (hn : RowV w w.heap.size nv (strs ns)) (hx : RowV w w.heap.size xv (ints xs)) (hm : RowV w w.heap.size mv (strs ms)) (hy : RowV w w.heap.size yv (ints ys))
    (l1 : ns.length = xs.length) (l2 : ms.length = ys.length) (la : ns.length ≤ 60) (lb : ms.length ≤ 60) (za : ∀ s ∈ ns, s.size ≤ maxLen) (zb : ∀ s ∈ ms, s.size ≤ maxLen) : Calls Try.prog 5 #[nv, xv, mv, yv] w (UnP N (xs ++ ys) w) := by
  obtain ⟨A1, c1, rfl⟩ := hn.form
  obtain ⟨A2, c2, rfl⟩ := hx.formI
  obtain ⟨A3, c3, rfl⟩ := hm.form
  obtain ⟨A4, c4, rfl⟩ := hy.formI
  have HP := Lib.hid (part_any ns ms N hN _ _ w hn hm la lb za zb)
  have HX := Lib.hid hx
  have HY := Lib.hid hy
  have HZ := Lib.hid (show ∀ s ∈ N, s.length ≤ maxLen from fun s hs => by
    rw [hN] at hs
    obtain ⟨t, ht, rfl⟩ := List.mem_map.1 hs
    have hl : (nm t).length = t.size := by unfold nm; rw [Array.length_toList]; rfl
    rw [hl]
    rcases List.mem_append.1 ht with h | h
    · exact za t h
    · exact zb t h)
  have HNL := Lib.hid (show N.length = xs.length + ys.length by rw [hN, List.length_map, List.length_append, l1, l2])
  rw [← l1, ← l2]
  have L1 := Lib.hid l1
  have L2 := Lib.hid l2
  clear hn hx hm hy za zb l1 l2 hN
  go_enter Try.func5, Try.ntmps5
  go_wp2_with fail
  refine HP.out.mono ?_
  rintro e w1 ⟨bm, n, D, rfl, hbn, hown, hnN, hbd, hnm, hb1⟩
  have HO := Lib.hid hown
  have HBD := Lib.hid hbd
  have HNM := Lib.hid hnm
  have HB1 := Lib.hid hb1
  have HnN := Lib.hid hnN
  clear hown hbd hnm hb1 hnN
  go_wp2_with (at_range; refine wpList_range_own _ rfl _ 32 rfl 9 3 keyed9 Try.underlying32 _ bm n D rfl HO.out ?_; intro w2 hrg2 hg2 hs2)
  go_frame
  obtain ⟨i0, hi, hz0, hz1, hz2⟩ := info_parts str_info
  have hbw2 : Below w.heap.size w w2 := HB1.out.grown hg2 HB1.out.size (fun j hj => by cases hj)
  have hbm : bm < w2.heap.size := Nat.lt_of_lt_of_le HO.out.lt hg2.size
  have hr : w1.heap.size < w2.heap.size := by omega
  have hwr : w.heap.size ≤ w1.heap.size := HB1.out.size
  have hwB : w.heap.size ≤ w2.heap.size := by omega
  have HS := Lib.hid (show UnL D bm w1.heap.size n w2.heap.size N.length w.heap.size (.slice none 0 0) w w2 from ⟨_, _, [], hrg2, by have := own_size HO.out; have := HnN.out; simp; omega, ⟨rfl, .inl ⟨rfl, rfl⟩⟩, Collected.start D, Nat.le_refl _, hbw2⟩)
  have hN120 : N.length ≤ 120 := by have := HNL.out; have := L1.out; have := L2.out; omega
  have HO2 := Lib.hid (HO.out.kept hg2 (by simp))
  clear hrg2 hg2 hs2 hbw2 HP
  generalize w2.heap.size = B at HS hbm hr hwB
  generalize w1.heap.size = r at HS hr hwr ⊢
  go_loopw [8] (fun v wr => Hid (UnL D bm r n B N.length w.heap.size v w wr)) (fun _ wr => wr.rangeLeft bm r)
  case atStart => exact HS
  case round =>
    obtain ⟨left, cnt, ss, hrg, hlim, hrow, hC, hBw, hbl⟩ := hrel.out
    have HC := Lib.hid hC
    have HBL := Lib.hid hbl
    have hsz := hbl.size
    clear hC hbl hrel
    go_wp2_with (at_next; refine wpList_next_ranges _ rfl _ rfl 9 keyed9 (plainElem Try.prog 3) encStr (Value.int .i64) key9_inv int3_inv bm _ _ _ _ _ rfl hrg ?_ ?_)
    · intro hc0 hl0
      have HAT := Lib.hid (un_at (all := xs ++ ys) (by rw [List.length_append]; exact HNL.out.symm) HBD.out HC.out)
      have HALL := Lib.hid (un_all (all := xs ++ ys) (by rw [List.length_append]; exact HNL.out.symm) HBD.out HC.out hl0)
      have HSO := Lib.hid (sort_any ss u8 B wr (by omega) hrow)
      have HOW := Lib.hid hrg.owns
      obtain ⟨A8, c8, rfl⟩ := own_form hrow
      have hss : ss.length ≤ 120 := by omega
      have HROW := Lib.hid hrow
      clear hl0 hrg hrow HC
      obtain ⟨W1, rfl⟩ : ∃ W1, W1 = wr := ⟨_, rfl⟩
      go_wp2_with (first
        | ((with_reducible refine HSO.out.mono ?_); rintro e w3 ⟨rfl, hrow3, hg3⟩; refine Hid.out ?_))
      have hR3 := own_rowV hrow3
      have hM3 := HOW.out.kept hg3 (row_ne_low HROW.out hbm)
      have hB3 : Below w.heap.size w w3 := HBL.out.grown hg3 hsz (fun j hj => by have := (HROW.out.lt j hj).1; omega)
      clear hrow3 hg3
      have hw3 := hB3.size
      obtain ⟨j0, ji, jz0, jz1, jz2⟩ := info_parts int_info
      have hX3 := (HX.out.below hB3 (Nat.le_refl _))
      have hY3 := (HY.out.below hB3 (Nat.le_refl _))
      rw [← L1.out] at hX3
      rw [← L2.out] at hY3
      have hown4 : (w3.alloc (.cells #[] 3)).ownsRow w3.heap.size 3 1 (.slice (some ⟨w3.heap.size, 0, none⟩) 0 0) 0 [] :=
        ⟨rfl, .inr ⟨w3.heap.size, 0, #[], rfl, Nat.le_refl _, heap_alloc_new w3 _, Nat.le_refl _, by simp, rfl, rfl⟩⟩
      have hb4 : Below w3.heap.size w3 (w3.alloc (.cells #[] 3)) := (Below.refl _ _).alloc (Nat.le_refl _) _
      have HX4 := Lib.hid ((hX3.below hb4 hw3).src)
      have HY4 := Lib.hid hY3
      have HO4 := Lib.hid hown4
      have HB4 := Lib.hid hb4
      have HR3 := Lib.hid hR3
      have HM3 := Lib.hid hM3
      have HB3 := Lib.hid hB3
      have hbase : w3.heap.size ≤ (w3.alloc (.cells #[] 3)).heap.size := by rw [World.size_alloc]; omega
      clear hX3 hY3 hown4 hb4 hR3 hM3 hB3
      refine Lib.hid ?_
      go_wp2_with (first
        | (at_builtin; refine wpList_append_rowV _ rfl (Operand.tmp 43) (Operand.tmp 44) 23 rfl w3.heap.size 3 j0 (.int .i64 0) 1 8 Try.underlying23 ji jz0 jz1 jz2 rfl (by decide) (.slice (some ⟨w3.heap.size, 0, none⟩) 0 0) 0 [] rfl HO4.out A2 ns.length c2 (ints xs) rfl (by rw [HX4.out.1, Nat.mul_one]) HX4.out.2 (fun u hu => by obtain ⟨i, _, rfl⟩ := List.mem_map.1 hu; rfl) (by unfold maxLen; omega) (by omega) hbase ?_; intro A5 c5 w5 hap5; rw [Nat.zero_add]; refine Hid.out ?_))
      rw [Nat.zero_add, List.nil_append] at hap5
      have hb5 : Below w3.heap.size w3 w5 := HB4.out.grown hap5.grown hbase (fun j hj => by cases hj; exact Nat.le_refl _)
      have HO5 := Lib.hid hap5.own
      have HY5 := Lib.hid ((HY4.out.below hb5 hw3).src)
      have hbase5 : w3.heap.size ≤ w5.heap.size := hb5.size
      have HB5 := Lib.hid hb5
      clear hap5 hb5
      refine Lib.hid ?_
      go_wp2_with (first
        | (at_builtin; refine wpList_append_rowV _ rfl (Operand.tmp 45) (Operand.tmp 46) 23 rfl w3.heap.size 3 j0 (.int .i64 0) 1 8 Try.underlying23 ji jz0 jz1 jz2 rfl (by decide) (.slice A5 ns.length c5) ns.length (ints xs) rfl HO5.out A4 ms.length c4 (ints ys) rfl (by rw [HY5.out.1, Nat.mul_one]) HY5.out.2 (fun u hu => by obtain ⟨i, _, rfl⟩ := List.mem_map.1 hu; rfl) (by unfold maxLen; omega) (by omega) hbase5 ?_; intro A6 c6 w6 hap6; refine Hid.out ?_))
      have hb6 : Below w3.heap.size w3 w6 := HB5.out.grown hap6.grown hbase5 (fun j hj => (HO5.out.lt j hj).1)
      have hA6 := own_rowV hap6.own
      rw [show ints xs ++ ints ys = ints (xs ++ ys) by simp [ints]] at hA6
      have HA6 := Lib.hid hA6
      have HR6 := Lib.hid ((HR3.out.below hb6 (Nat.le_refl _)).more hb6.size)
      have HM6 := Lib.hid (own_below HM3.out hb6)
      have HBW := Lib.hid (bnext HB3.out hb6)
      have HST := Lib.hid (show (ss.mergeSort leB).length = ss.length by simp)
      have hall : (xs ++ ys).length = ns.length + ms.length := by rw [List.length_append, L1.out, L2.out]
      have HALN := Lib.hid hall
      clear hap6 hb6 hA6 HB5 HO5 HY5 HB4 HO4 HX4 HY4 HR3 HM3 HB3 HOW HROW HSO hall hbase hbase5 hw3
      generalize hSS : ss.mergeSort leB = S at HAT HALL HR6 HST
      clear hSS
      generalize ss.length = q at *
      generalize hT : ns.length + ms.length = T at *
      have hT120 : T ≤ 120 := by omega
      clear hT
      generalize xs ++ ys = all at *
      refine Lib.hid ?_
      go_wp2_with fail
      have HS2 := Lib.hid (show UnW (S.map (valOf N all)) 0 (.slice none 0 0) w6 w6 from ⟨⟨rfl, .inl ⟨rfl, rfl⟩⟩, Below.refl _ _⟩)
      go_loopw [9, 50] (fun v i wr => ∃ k : Nat, k ≤ q ∧ i = .int .i64 k ∧ Hid (UnW (S.map (valOf N all)) k v w6 wr)) (fun _ i _ => q - (intOf i).toNat)
      case atStart => exact ⟨0, Nat.zero_le _, rfl, HS2⟩
      case round =>
        obtain ⟨k, hk, rfl, HW⟩ := hrel
        by_cases hlt : k < q
        · have hlt' : (k : Int) < (q : Int) := by omega
          have hkS : k < S.length := by rw [HST.out]; exact hlt
          obtain ⟨hrow, hbl⟩ := HW.out
          obtain ⟨b8, o8, rfl, _, hc8⟩ := (HR6.out.below hbl (Nat.le_refl _)).get (k := k) (u := encStr S[k]) (by simp [hkS])
          obtain ⟨j, hj, hjv⟩ := HAT.out S[k] (List.getElem_mem hkS)
          obtain ⟨b6, o6, rfl, _, hc6⟩ := (HA6.out.below hbl (Nat.le_refl _)).get (k := j) (u := .int .i64 (valOf N all S[k])) (by simp [ints, hjv])
          have hjT : j < T := by have := (List.getElem?_eq_some_iff.1 hjv).1; rw [HALN.out] at this; exact this
          have hjT' : (j : Int) < (T : Int) := by omega
          have hsN : S[k] ∈ N := (List.of_mem_zip (lastOf_mem ((HBD.out _).symm.trans hj))).1
          have hkey := key9_of S[k] (HZ.out _ hsN)
          have HNA := Lib.hid (natMap_at HNM.out hj)
          have HTS := Lib.hid (take_snoc (S.map (valOf N all)) k (by rw [List.length_map]; exact hkS))
          rw [List.getElem_map] at HTS
          have HRW := Lib.hid hrow
          have HBL2 := Lib.hid hbl
          have HM := Lib.hid (own_below HM6.out hbl)
          have hbw := hbl.size
          clear hrow hbl hj hjv HW
          generalize S[k] = x at hc8 hc6 hkey HNA HTS hsN
          generalize hvx : valOf N all x = vx at hc6 HTS
          clear hvx
          have hbs : w6.heap.size ≤ (wr.alloc (.cells #[.int .i64 vx] 3)).heap.size := by rw [World.size_alloc]; omega
          have h1 : k + 1 ≤ maxLen := by unfold maxLen; omega
          have h2 : (k + 1) * 8 ≤ 140737488355328 := by omega
          have HZ3 := Lib.hid (zero3 wr)
          go_wp2_with (first
            | (at_lookup; refine wpList_lookup_own_int _ rfl _ _ 32 rfl 9 3 .i64 keyed9 Try.underlying32 Try.underlying3 HZ3.out bm n D rfl HM.out _ _ rfl hkey ?_; intro c hat hwc; obtain rfl : c = (j : Int) := by rw [HNA.out] at hat; unfold litN at hat; injection hat with hat; injection hat with _ hat; exact hat.symm)
            | (at_builtin; refine wpList_append_own _ rfl _ _ 23 rfl w6.heap.size 3 j0 (.int .i64 0) 1 8 Try.underlying23 ji jz0 jz1 jz2 rfl (by decide) _ _ _ rfl (HRW.out.alloc _) ⟨wr.heap.size, 0, none⟩ 1 1 [.int .i64 vx] rfl rfl (cell_one_new _ _ _) (by simp [Value.oneCell']) h1 h2 hbs ?_; intro v' w7 hown' hg7 hnil7; go_frame))
          have hS : UnW (S.map (valOf N all)) (k + 1) v' w6 w7 := by
            refine ⟨?_, (HBL2.out.alloc hbw _).grown hg7 hbs (fun j hj => (HRW.out.lt j hj).1)⟩
            rw [HTS.out, ints_snoc]
            exact hown'
          have HS3 := Lib.hid hS
          clear hS hown' hg7 hnil7
          go_roundw
          case rel => exact ⟨k + 1, by omega, by go_num, HS3⟩
          case measure => simp [intOf]; omega
        · obtain rfl : k = q := by omega
          obtain ⟨hrow, hbl⟩ := HW.out
          rw [List.take_of_length_le (by rw [List.length_map, HST.out]; exact Nat.le_refl _)] at hrow
          have HRW := Lib.hid hrow
          have HBL2 := Lib.hid hbl
          clear hrow hbl
          go_wp2_with fail
          go_ret3
          have e1 : (united (N.zip all)).map (fun p => encStr p.1) = S.map encStr := by rw [← HALL.out, List.map_map]; rfl
          have e2 : ints ((united (N.zip all)).map Prod.snd) = ints (S.map (valOf N all)) := by rw [← HALL.out, List.map_map]; rfl
          obtain ⟨A9, c9, rfl⟩ := own_form HRW.out
          exact ⟨_, _, rfl, by rw [e1]; exact (HR6.out.below HBL2.out (Nat.le_refl _)).more HBL2.out.size, by rw [e2]; exact own_rowV HRW.out, bnext HBW.out HBL2.out⟩
    · intro x c kl yd yp w2 cnt2 hkey hlk hv hat hrg2 hlt hg2 hs2 hen
      obtain ⟨x', ex, rfl, hxl⟩ := Maps.keyOf_str Try.underlying9 hkey
      obtain rfl : x = x' := encStr_inj ex
      have hrow2 := hrow.kept hg2 (Or.inr (row_ne_iter hrow hrg).symm)
      have hb2 : B ≤ w2.heap.size := by omega
      have hb3 : B ≤ (w2.alloc (.cells #[encStr x] 9)).heap.size := by rw [World.size_alloc]; omega
      have HX := Lib.hid hs2
      have HL := Lib.hid hrg.left_eq
      have HC2 := Lib.hid (HC.out.step hlk hat)
      have h1 : ss.length + 1 ≤ maxLen := by unfold maxLen; omega
      have h2 : (ss.length + 1) * 16 ≤ 140737488355328 := by omega
      clear hs2 ex hrg hv hat
      go_wp2_with (at_builtin; refine wpList_append_own _ rfl _ _ 22 rfl B 9 i0 (.string ⟨#[]⟩) 1 16 Try.underlying22 hi hz0 hz1 hz2 rfl (by decide) _ _ _ rfl (hrow2.alloc _) ⟨w2.heap.size, 0, none⟩ 1 1 [encStr x] rfl rfl (cell_one_new _ _ _) (by simp [Value.oneCell', encStr]) h1 h2 hb3 ?_; intro v' w3 hown' hg3 hnil3; go_frame)
      have hrg3 := (hrg2.alloc (.cells #[encStr x] 9)).kept hg3 (row_ne_low hrow2 hbm) (row_ne_low hrow2 hr)
      have hS : UnL D bm r n B N.length w.heap.size v' w w3 :=
        ⟨_, _, ss ++ [x], hrg3, by simp; omega, by simpa using hown', HC2.out, by have := hg3.size; omega, ((HBL.out.grown hg2 hsz (fun j hj => by cases hj; omega)).alloc (by have := HX.out; omega) _).grown hg3 (by simp; have := HX.out; omega) (fun j hj => by have := (hrow2.lt j hj).1; omega)⟩
      have HS3 := Lib.hid hS
      have HM := Lib.hid hrg3.left_eq
      clear hS hrg3 hown' hg3 hrow2 hrg2 hg2
      go_roundw
      case rel => exact HS3
      case measure => rw [HM.out, HL.out]; exact hlt
end Go.Proofs.Ytadehfoamdkcmaa
