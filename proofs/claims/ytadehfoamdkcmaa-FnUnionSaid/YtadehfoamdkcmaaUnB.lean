/- Maps of names in memory, key by key; thunks with numbers; the contracts of makeValueNumber, intToValue, readyThunk, frame. -/
import Derived.Test.YtadehfoamdkcmaaRow
import Derived.Test.YtadehfoamdkcmaaValB
import Derived.Test.YtadehfoamdkcmaaUnA
import Derived.Maps.RangeWalk
import Derived.Maps.Ext
import Derived.Maps.OwnOps
import Derived.Sort.OwnSorted
namespace Go.Proofs.Ytadehfoamdkcmaa
open Go.RowKit Val
set_option linter.unusedSimpArgs false

theorem bnext {w w1 w2 : World} (h1 : Below w.heap.size w w1) (h2 : Below w1.heap.size w1 w2) : Below w.heap.size w w2 := h1.trans (h2.mono h1.size)
theorem take_snoc {α : Type} (l : List α) (k : Nat) (h : k < l.length) : l.take (k + 1) = l.take k ++ [l[k]] := by
  rw [List.take_add_one, List.getElem?_eq_getElem h]; rfl
theorem heap_cell {w : World} {g : Nat} {C : Array Value} {T : TypeId} {fr : Nat × Nat} (h : w.heap[g]? = some (.cells C T fr)) (j : Nat) : w.cell? ⟨g, j, none⟩ = C[j]? := by
  unfold World.cell?; rw [h]; simp
theorem heap_below {w w' : World} {g : Nat} {x : Obj} (h : w.heap[g]? = some x) (hb : Below w.heap.size w w') : w'.heap[g]? = some x := (hb.block g (Array.getElem?_eq_some_iff.1 h).1).trans h
theorem heap_after {w : World} {g : Nat} {x : Obj} (h : w.heap[g]? = some x) (o : Obj) : (w.alloc o).heap[g]? = some x :=
  heap_below h ((Below.refl _ _).alloc (Nat.le_refl _) o)
theorem grown_of_below {w w' : World} (h : Below w.heap.size w w') : w.grownBy w' none := ⟨h.os, h.tape, h.output, h.size, fun i hi _ => h.block i hi⟩

/-! ### maps of names, key by key -/
def gOf : DataW Unit → Nat
  | .lit (.int _ n) => n.toNat
  | _ => 0
def litN (g : Nat) : DataW Unit := .lit (.int .i64 g)
theorem gOf_lit (g : Nat) : gOf (litN g) = g := by simp [gOf, litN]
/-- What a name is bound to in a map as read. -/
def bind (D : DataW Unit) (x : Nm) : Option Nat := if Maps.has D (.string x) = true then some (gOf (D.atKey (.string x) .nil)) else none
theorem key_str (x : Nm) : WideAt.IsKeyLit (.string x) := by simp [WideAt.IsKeyLit]
theorem bind_empty (x : Nm) : bind (.map []) x = none := by simp [bind, Maps.has]
theorem bind_put {D : DataW Unit} (h : Maps.IsMap D) (y : Nm) (g : Nat) (x : Nm) : bind (D.put (.string y) (litN g)) x = if y = x then some g else bind D x := by
  unfold bind
  by_cases e : y = x
  · subst e
    rw [Maps.has_put_same h (key_str y), Maps.atKey_put_same h (key_str y), gOf_lit]
    simp
  · have e2 : Lit.string x ≠ Lit.string y := fun h => by injection h with h; exact e h.symm
    rw [Maps.has_put_other e2, Maps.atKey_put_other e2]
    simp [e]
theorem bind_at {D : DataW Unit} {x : Nm} {g : Nat} (h : ∀ zd, D.atKey (.string x) zd = litN g) : bind D x = some g := by
  unfold bind
  rw [Maps.has_true_of_atKey h, h, gOf_lit]
  simp
theorem bind_has {D : DataW Unit} {x : Nm} : Maps.has D (.string x) = (bind D x).isSome := by
  unfold bind
  cases h : Maps.has D (.string x) <;> simp
theorem own_isMap {w : World} {P : Program} {k : TypeId} {R : Value → Option (DataW Unit × List MemPlace)} {b n : Nat} {D : DataW Unit} (h : w.ownsMap P k R b n D) : Maps.IsMap D := by
  obtain ⟨es, clock, hb, F, hs, hD⟩ := h
  exact ⟨_, hD⟩
theorem own_size {w : World} {P : Program} {k : TypeId} {R : Value → Option (DataW Unit × List MemPlace)} {b n : Nat} {D : DataW Unit} (h : w.ownsMap P k R b n D) : Maps.size D ≤ n := by
  obtain ⟨es, clock, hb, F, hs, hD⟩ := h
  rw [hD]
  simp only [Maps.size, length_sorted, List.length_map, Array.length_toList]
  exact hs
theorem own_below {w w' : World} {P : Program} {k : TypeId} {R : Value → Option (DataW Unit × List MemPlace)} {b n : Nat} {D : DataW Unit} (h : w.ownsMap P k R b n D) (hb : Below w.heap.size w w') : w'.ownsMap P k R b n D := h.kept (grown_of_below hb) (by simp)
theorem own_below' {w w' : World} {B : Nat} {P : Program} {k : TypeId} {R : Value → Option (DataW Unit × List MemPlace)} {b n : Nat} {D : DataW Unit} (h : w.ownsMap P k R b n D) (hb : Below B w w') (hB : b < B) : w'.ownsMap P k R b n D := by
  obtain ⟨es, clock, h1, F, hs, hD⟩ := h
  exact ⟨es, clock, (hb.block b hB).trans h1, F, hs, hD⟩

/-- An element that is a pointer. -/
def elT (v : Value) : Option (DataW Unit × List MemPlace) :=
  match v with
  | .pointer (some ⟨g, 0, none⟩) => some (litN g, [])
  | _ => none
abbrev ptr (g : Nat) : Value := .pointer (some ⟨g, 0, none⟩)
theorem elT_mk (g : Nat) : elT (ptr g) = some (litN g, []) := rfl
theorem elT_inv {v : Value} {z : DataW Unit × List MemPlace} (h : elT v = some z) : ∃ g, v = ptr g := by
  unfold elT at h
  split at h
  · exact ⟨_, rfl⟩
  · cases h
theorem keyed40 : Maps.Keyed Try.prog 40 := Maps.string_keyed Try.underlying40
theorem keyed9 : Maps.Keyed Try.prog 9 := Maps.string_keyed Try.underlying9
def nm (s : ByteArray) : Nm := s.data.toList
theorem encStr_nm (s : ByteArray) : encStr (nm s) = .string s := by simp [encStr, nm]
theorem key40 (s : ByteArray) (h : s.size ≤ maxLen) : keyOf Try.prog 40 (.string s) = some (.string (nm s)) := WideMaps.keyOf_string_mk Try.underlying40 h
theorem mkmap37 (w : World) : (Instr.makeMap 37 none).run Try.prog w = .ok (.map (some w.heap.size)) (w.alloc (.map #[] 0)) := by
  simp [Instr.makeMap, Result.andThen]
theorem mkmap32 (w : World) : (Instr.makeMap 32 none).run Try.prog w = .ok (.map (some w.heap.size)) (w.alloc (.map #[] 0)) := by
  simp [Instr.makeMap, Result.andThen]
theorem mkmap37' (w : World) (k : IntKind) (n : Int) : (Instr.makeMap 37 (some (.int k n))).run Try.prog w = .ok (.map (some w.heap.size)) (w.alloc (.map #[] 0)) := by
  simp [Instr.makeMap, asInt, asIntOf, Result.andThen]

/-! ### thunks with numbers -/
def thO (h : Nat) : Obj := .cells #[.pointer none, .nilIface, .iface 47 (.pointer (some ⟨h, 0, none⟩)), .nilIface] 56
def nuO (x : Nat) : Obj := .cells #[.float .f64 x] 46
/-- A thunk at block g that holds the number x. -/
def ThG (w : World) (g x : Nat) : Prop := ∃ h, w.heap[g]? = some (thO h) ∧ w.heap[h]? = some (nuO x)
theorem ThG.below {w w' : World} {g x : Nat} (h : ThG w g x) (hb : Below w.heap.size w w') : ThG w' g x := by
  obtain ⟨h, h1, h2⟩ := h
  exact ⟨h, heap_below h1 hb, heap_below h2 hb⟩
theorem ThG.keep {w w' : World} {b g x : Nat} (h : ThG w g x) {es : Array MapEntry} {c : Nat} (hm : w.heap[b]? = some (.map es c)) (hg : w.grownBy w' (some b)) : ThG w' g x := by
  obtain ⟨h, h1, h2⟩ := h
  have n1 : g ≠ b := fun e => by rw [e, hm] at h1; cases h1
  have n2 : h ≠ b := fun e => by rw [e, hm] at h2; cases h2
  exact ⟨h, (hg.block g (Array.getElem?_eq_some_iff.1 h1).1 (by simpa using n1)).trans h1, (hg.block h (Array.getElem?_eq_some_iff.1 h2).1 (by simpa using n2)).trans h2⟩

theorem makeNum_any (b : Nat) (w : World) :
    Calls Try.prog 19 #[.float .f64 b] w fun e w' => e = .returned (.pointer (some ⟨w.heap.size, 0, none⟩)) ∧ w' = w.alloc (.cells #[.float .f64 b] 46) := by
  go_enter Try.func19, Try.ntmps19
  go_wp2
  go_ret
  exact ⟨rfl, rfl⟩
theorem intTo_any (n : Int) (w : World) :
    Calls Try.prog 16 #[.int .i64 n] w fun e w' => e = .returned (.pointer (some ⟨w.heap.size, 0, none⟩)) ∧ w' = w.alloc (.cells #[.float .f64 (intW n)] 46) := by
  have hcr : ∀ w, (Go.convert 3 44 (.int .i64 n)).run Try.prog w = .ok (.float .f64 (intW n)) w := fun w => by kernel_rfl
  go_enter Try.func16, Try.ntmps16
  go_wp2_with (go_at_call 19; refine (makeNum_any _ _).mono ?_; rintro e w' ⟨rfl, rfl⟩)
  go_ret
  exact ⟨rfl, rfl⟩
theorem ready_any (ty : TypeId) (p : Value) (w : World) : Calls Try.prog 15 #[.iface ty p] w fun e w' =>
    e = .returned (.pointer (some ⟨w.heap.size, 0, none⟩)) ∧ w' = w.alloc (.cells #[.pointer none, .nilIface, .iface ty p, .nilIface] 56) := by
  go_enter Try.func15, Try.ntmps15
  go_wp2
  go_ret
  exact ⟨rfl, rfl⟩

def FrP (ns : List ByteArray) (fr : Nat) (w : World) (e : Ending) (w' : World) : Prop := ∃ b D gs, e = .returned (.map (some b)) ∧ w.heap.size ≤ b ∧ w'.ownsMap Try.prog 40 elT b ns.length D ∧ gs.length = ns.length ∧
  (∀ x, bind D x = lastOf ((ns.map nm).zip gs) x) ∧ (∀ j g, gs[j]? = some g → ThG w' g (intW ((fr + j : Nat) : Int))) ∧ Below w.heap.size w w'
def FrL (ns : List ByteArray) (fr k b : Nat) (w wr : World) : Prop := ∃ D gs, wr.ownsMap Try.prog 40 elT b k D ∧ gs.length = k ∧
  (∀ x, bind D x = lastOf (((ns.take k).map nm).zip gs) x) ∧ (∀ j g, gs[j]? = some g → ThG wr g (intW ((fr + j : Nat) : Int))) ∧ Below w.heap.size w wr

set_option maxRecDepth 100000 in
set_option maxHeartbeats 1000000 in
theorem frame_any (ns : List ByteArray) (nv : Value) (fr : Nat) (w : World) (hn : RowV w w.heap.size nv (strs ns)) (hl : ns.length ≤ 100) (hf : fr ≤ 100) (hz : ∀ s ∈ ns, s.size ≤ maxLen) :
    Calls Try.prog 13 #[nv, .int .i64 (fr : Nat)] w (FrP ns fr w) := by
  obtain ⟨A, c, rfl⟩ := hn.form
  have HN := Lib.hid hn
  have HZ := Lib.hid hz
  clear hn hz
  have hm := mkmap37
  go_enter Try.func13, Try.ntmps13
  go_wp2_with fail
  have hb0 : Below w.heap.size w (w.alloc (.map #[] 0)) := (Below.refl _ _).alloc (Nat.le_refl _) _
  have hM := World.ownsMap_made w Try.prog 40 elT
  generalize w.alloc (.map #[] 0) = W1 at hb0 hM ⊢
  have HS := Lib.hid (show FrL ns fr 0 w.heap.size w W1 from ⟨.map [], [], hM, rfl, fun x => by rw [bind_empty]; rfl, fun j g h => by simp at h, hb0⟩)
  clear hM hb0
  go_loopw [11] (fun i wr => ∃ k : Nat, k ≤ ns.length ∧ i = .int .i64 k ∧ Hid (FrL ns fr k w.heap.size w wr)) (fun i _ => ns.length - (intOf i).toNat)
  case atStart => exact ⟨0, Nat.zero_le _, rfl, HS⟩
  case round =>
    obtain ⟨k, hk, rfl, HS⟩ := hrel
    by_cases hlt : k < ns.length
    · have hlt' : (k : Int) < (ns.length : Int) := by omega
      obtain ⟨D, gs, hown, hgl, hbd, hth, hb⟩ := HS.out
      have hsz := hb.size
      obtain ⟨b, off, rfl, hbB, hcell⟩ := (HN.out.below hb (Nat.le_refl _)).at_ hlt
      have hkey := key40 ns[k] (HZ.out _ (List.getElem_mem hlt))
      have hb3 : Below wr.heap.size wr ((wr.alloc (nuO (intW ((fr : Int) + k)))).alloc (thO wr.heap.size)) := ((Below.refl _ _).alloc (Nat.le_refl _) _).alloc (by simp) _
      have hth3 : ThG ((wr.alloc (nuO (intW ((fr : Int) + k)))).alloc (thO wr.heap.size)) (wr.heap.size + 1) (intW ((fr : Int) + k)) := by
        refine ⟨wr.heap.size, ?_, heap_after (heap_alloc_new wr _) _⟩
        have := heap_alloc_new (wr.alloc (nuO (intW ((fr : Int) + k)))) (thO wr.heap.size)
        rwa [World.size_alloc] at this
      have HO := Lib.hid (own_below hown hb3)
      have HT := Lib.hid hth3
      have HT2 := Lib.hid (fun j g h => (hth j g h).below hb3)
      have HB := Lib.hid (bnext hb hb3)
      have HG := Lib.hid hgl
      have HD := Lib.hid hbd
      have HM := Lib.hid (own_isMap hown)
      clear hown hgl hbd hth hb hb3 hth3
      go_wp2_with (first
        | (go_at_call 16; refine (intTo_any _ _).mono ?_; rintro e w' ⟨rfl, rfl⟩)
        | (go_at_call 15; refine (ready_any _ _ _).mono ?_; rintro e w' ⟨rfl, rfl⟩)
        | (at_mapUpdate; refine wpList_mapUpdate_own _ rfl _ _ _ 37 rfl 40 41 keyed40 Try.underlying37 _ w.heap.size k D rfl HO.out (by unfold maxLen; omega) _ _ (.string (nm ns[k])) rfl rfl hkey (litN (wr.heap.size + 1)) [] (elT_mk _) ?_; intro w1 hown1 hgrow1))
      have hS : FrL ns fr (k + 1) w.heap.size w w1 := by
        obtain ⟨es, clock, hmb, _⟩ := HO.out
        refine ⟨_, gs ++ [wr.heap.size + 1], hown1, by rw [List.length_append, HG.out]; rfl, fun x => ?_, fun j g hj => ?_, HB.out.grown hgrow1 (by simp; omega) (fun j hj => by injection hj with hj; omega)⟩
        · rw [bind_put HM.out, HD.out x, take_snoc _ _ hlt, List.map_append, List.zip_append (by rw [HG.out, List.length_map, List.length_take]; omega)]
          show _ = lastOf (_ ++ [(nm ns[k], wr.heap.size + 1)]) x
          rw [lastOf_snoc]
        · rcases Nat.lt_or_ge j k with h | h
          · rw [List.getElem?_append_left (by rw [HG.out]; exact h)] at hj
            exact (HT2.out j g hj).keep hmb hgrow1
          · have hjl := (List.getElem?_eq_some_iff.1 hj).1
            rw [List.length_append, HG.out] at hjl
            obtain rfl : j = k := by simp at hjl; omega
            rw [List.getElem?_append_right (by rw [HG.out]; exact Nat.le_refl _), HG.out, Nat.sub_self] at hj
            injection hj with hj
            subst hj
            exact HT.out.keep hmb hgrow1
      have HS1 := Lib.hid hS
      clear hS hown1 hgrow1
      go_roundw
      case rel => exact ⟨k + 1, by omega, by go_num, HS1⟩
      case measure => simp [intOf]; omega
    · obtain rfl : k = ns.length := by omega
      go_wp2_with fail
      go_ret
      obtain ⟨D, gs, hown, hgl, hbd, hth, hb⟩ := HS.out
      rw [List.take_length] at hbd
      exact ⟨_, D, gs, rfl, Nat.le_refl _, hown, hgl, hbd, hth, hb⟩
end Go.Proofs.Ytadehfoamdkcmaa
