/- Objects of package jsonnet in memory; the contracts of inheritanceSize, makeValueSimpleObject, simple, makeValueExtendedObject. -/
import Derived.Test.YtadehfoamdkcmaaDoorFdC
import Derived.Maps.OwnSet
import Derived.Deep.RegionLaw
import Derived.BigRegion
namespace Go.Proofs.YtadehfoamdkcmaaDoor
open Go.RowKit

/-! ### sets of names -/
def kl (s : ByteArray) : Lit := .string s.data.toList
def keys (ss : List ByteArray) : List Lit := ss.map kl
def tt : DataW Unit := .lit (.bool true)
theorem kl_inj {a b : ByteArray} (h : kl a = kl b) : a = b := by
  unfold kl at h
  injection h with h
  have h2 : a.data = b.data := by
    have := congrArg List.toArray h
    simpa using this
  cases a; cases b
  simpa using h2
theorem kl_key (s : ByteArray) : WideAt.IsKeyLit (kl s) := by simp [kl, WideAt.IsKeyLit]
theorem has_keys (ss : List ByteArray) (q : ByteArray) : Maps.has (Maps.setOf tt (keys ss)) (kl q) = true ↔ q ∈ ss := by
  rw [Maps.has_setOf tt (kl q) (keys ss) (fun x hx => by obtain ⟨s, _, rfl⟩ := List.mem_map.1 hx; exact kl_key s)]
  rw [List.any_eq_true]
  constructor
  · rintro ⟨x, hx, hs⟩
    obtain ⟨s, hs', rfl⟩ := List.mem_map.1 hx
    have := (WideAt.sameKey_iff (kl_key q)).1 hs
    rw [← kl_inj this]
    exact hs'
  · intro h
    exact ⟨kl q, List.mem_map.2 ⟨q, h, rfl⟩, (WideAt.sameKey_iff (kl_key q)).2 rfl⟩
theorem put_keys (ss : List ByteArray) (q : ByteArray) : (Maps.setOf tt (keys ss)).put (kl q) tt = Maps.setOf tt (keys (ss ++ [q])) := by
  rw [show keys (ss ++ [q]) = keys ss ++ [kl q] by simp [keys], Maps.setOf_snoc]

open Classical in
/-- A field of an object, whatever its visibility. -/
noncomputable def elR (v : Value) : Option (DataW Unit × List MemPlace) := if ∃ h, v = .agg #[.nilIface, .int .i64 h] then some (tt, []) else none
theorem elR_mk (h : Int) : elR (.agg #[.nilIface, .int .i64 h]) = some (tt, []) := by
  unfold elR; exact if_pos ⟨h, rfl⟩
theorem elR_inv {v : Value} {z : DataW Unit × List MemPlace} (hz : elR v = some z) : ∃ h, v = .agg #[.nilIface, .int .i64 h] := by
  unfold elR at hz
  split at hz
  · assumption
  · cases hz
def MapAt (w : World) (b k : Nat) (ss : List ByteArray) : Prop := w.ownsMap Tryd.prog 9 elR b k (Maps.setOf tt (keys ss))
theorem keyed : Maps.Keyed Tryd.prog 9 := Maps.string_keyed Tryd.underlying9
theorem key_ok (s : ByteArray) (h : s.size ≤ maxLen) : keyOf Tryd.prog 9 (.string s) = some (kl s) := WideMaps.keyOf_string_mk Tryd.underlying9 h
theorem zero_field (w : World) : (zeroValue 67).run Tryd.prog w = .ok (.agg #[.nilIface, .int .i64 0]) w := by kernel_rfl
theorem MapAt.put {w' : World} {b k : Nat} {ss : List ByteArray} {q : ByteArray} (h : w'.ownsMap Tryd.prog 9 elR b k ((Maps.setOf tt (keys ss)).put (kl q) tt)) : MapAt w' b k (ss ++ [q]) := by
  unfold MapAt
  rw [← put_keys]
  exact h
theorem mkmap89 (w : World) : (Instr.makeMap 89 none).run Tryd.prog w = .ok (.map (some w.heap.size)) (w.alloc (.map #[] 0)) := by
  simp [Instr.makeMap, Result.andThen]
theorem mkmap57 (w : World) : (Instr.makeMap 57 none).run Tryd.prog w = .ok (.map (some w.heap.size)) (w.alloc (.map #[] 0)) := by
  simp [Instr.makeMap, Result.andThen]
theorem take_snoc {α : Type} (l : List α) (k : Nat) (h : k < l.length) : l.take (k + 1) = l.take k ++ [l[k]] := by
  rw [List.take_add_one, List.getElem?_eq_getElem h]; rfl

theorem upon_method {P : Program} {o : Oper} {a : Act} {K : Act → World → Prop} {Q : Exit → Act → World → Prop} {f : Nat} {t : TypeId} {v : Value} {nm : String} {w : World} {g : FuncId × Value → World → Result Next} (r : FuncId × Value)
    (h : (method f t v nm).run P w = .ok r w) (h2 : Oper.upon P o a K Q (g r w)) : Oper.upon P o a K Q (((method f t v nm).run P w).andThen g) := by
  rw [h]; exact h2

/-! ### objects -/
/-- A simple object, with fields of these names. -/
def SimpV (w : World) (u : Value) (ns : List ByteArray) : Prop :=
  ∃ g b n, u = .iface 86 (.pointer (some ⟨g, 0, none⟩)) ∧ w.heap[g]? = some (.cells #[.map none, .map (some b), .slice none 0 0, .slice none 0 0] 92) ∧ MapAt w b n ns
theorem MapAt.below {w w' : World} {b n : Nat} {ss : List ByteArray} (h : MapAt w b n ss) (hb : Below w.heap.size w w') : MapAt w' b n ss := World.ownsMap.kept h (grown_of_below hb) (by simp)
theorem heap_below {w w' : World} {g : Nat} {x : Obj} (h : w.heap[g]? = some x) (hb : Below w.heap.size w w') : w'.heap[g]? = some x := (hb.block g (Array.getElem?_eq_some_iff.1 h).1).trans h
theorem SimpV.below {w w' : World} {u : Value} {ns : List ByteArray} (h : SimpV w u ns) (hb : Below w.heap.size w w') : SimpV w' u ns := by
  obtain ⟨g, b, n, hu, hg, hm⟩ := h
  exact ⟨g, b, n, hu, heap_below hg hb, hm.below hb⟩

/-- A chain of objects, the rightmost first. -/
def ObjL (w : World) : List (List ByteArray) → Value → Prop
  | [], _ => False
  | [ns], u => SimpV w u ns
  | ns :: m :: l, u => ∃ g L R, u = .iface 83 (.pointer (some ⟨g, 0, none⟩)) ∧ w.heap[g]? = some (.cells #[L, R, .int .i64 ((l.length + 2 : Nat) : Int)] 85) ∧ ObjL w (m :: l) L ∧ SimpV w R ns
theorem ObjL.below {w w' : World} (hb : Below w.heap.size w w') : ∀ {l : List (List ByteArray)} {u : Value}, ObjL w l u → ObjL w' l u
  | [], _, h => h.elim
  | [_], _, h => SimpV.below h hb
  | _ :: m :: l, _, h => by
    obtain ⟨g, L, R, hu, hg, h1, h2⟩ := h
    exact ⟨g, L, R, hu, heap_below hg hb, ObjL.below hb h1, h2.below hb⟩

theorem size72_any (p : Value) (w : World) : Calls Tryd.prog 72 #[p] w fun e w' => e = .returned (.int .i64 1) ∧ w = w' := by
  go_enter Tryd.func72, Tryd.ntmps72
  go_wp2
  go_ret
  exact ⟨rfl, rfl⟩
theorem size71_any (g : Nat) (n : Int) (w : World) (hc : w.cell? ⟨g, 2, none⟩ = some (.int .i64 n)) : Calls Tryd.prog 71 #[.pointer (some ⟨g, 0, none⟩)] w fun e w' => e = .returned (.int .i64 n) ∧ w = w' := by
  go_enter Tryd.func71, Tryd.ntmps71
  go_wp2
  go_ret
  exact ⟨rfl, rfl⟩

def SimP (ns : List ByteArray) (w : World) (e : Ending) (w' : World) : Prop := ∃ g u, e = .returned (.pointer (some ⟨g, 0, none⟩)) ∧ w'.cell? ⟨g, 2, none⟩ = some u ∧ SimpV w' u ns ∧ Below w.heap.size w w'

set_option maxRecDepth 100000 in
theorem mksimple_any (b n : Nat) (ns : List ByteArray) (w : World) (h : MapAt w b n ns) :
    Calls Tryd.prog 30 #[.map none, .map (some b), .slice none 0 0, .slice none 0 0] w (SimP ns w) := by
  have H := Lib.hid h
  clear h
  have hm := mkmap57
  go_enter Tryd.func30, Tryd.ntmps30
  go_wp2_with fail
  go_ret
  have hb1 : Below w.heap.size w (w.alloc (.map #[] 0)) := (Below.refl _ _).alloc (Nat.le_refl _) _
  have hb2 := hb1.alloc (by simp) (.cells #[.map none, .map (some b), .slice none 0 0, .slice none 0 0] 92)
  have hb3 := hb2.alloc (by simp; omega) (.cells #[.nilIface, .map (some w.heap.size), .iface 86 (.pointer (some ⟨w.heap.size + 1, 0, none⟩))] 61)
  refine ⟨_, .iface 86 (.pointer (some ⟨w.heap.size + 1, 0, none⟩)), rfl, ?_, ⟨w.heap.size + 1, b, n, rfl, ?_, H.out.below hb3⟩, hb3⟩
  · simp [go_sem]
  · refine heap_after ?_ _
    have := heap_alloc_new (w.alloc (.map #[] 0)) (.cells #[.map none, .map (some b), .slice none 0 0, .slice none 0 0] 92)
    rwa [World.size_alloc] at this

set_option maxRecDepth 100000 in
set_option maxHeartbeats 2000000 in
theorem simple_any (r : ByteArray) (nv hv : Value) (ns : List ByteArray) (hs : List Int) (w : World) (hn : RowV w w.heap.size nv (strs ns)) (hh : RowV w w.heap.size hv (ints hs)) (hl : hs.length = ns.length) (h12 : ns.length ≤ 12) (hz : ∀ s ∈ ns, s.size ≤ maxLen) :
    Calls Tryd.prog 23 #[.agg #[.string r, nv, hv, .bool false]] w (SimP ns w) := by
  obtain ⟨A, c, rfl⟩ := hn.form
  obtain ⟨A1, c1, rfl⟩ := hh.formI
  rw [hl] at hh ⊢
  have HN := Lib.hid hn
  have HH := Lib.hid hh
  have HL := Lib.hid hl
  have HZ := Lib.hid hz
  clear hn hh hl hz
  have hm := mkmap89
  go_enter Tryd.func23, Tryd.ntmps23
  go_wp2_with fail
  have hb0 : Below w.heap.size w (w.alloc (.cells #[.string r, .slice A ns.length c, .slice A1 ns.length c1, .bool false] 49)) := (Below.refl _ _).alloc (Nat.le_refl _) _
  have hb1 := hb0.alloc (by simp) (.map #[] 0)
  have hX := heap_after (heap_alloc_new w (.cells #[.string r, .slice A ns.length c, .slice A1 ns.length c1, .bool false] 49)) (.map #[] 0)
  have hM := World.ownsMap_made (w.alloc (.cells #[.string r, .slice A ns.length c, .slice A1 ns.length c1, .bool false] 49)) Tryd.prog 9 elR
  rw [World.size_alloc] at hM
  generalize ((w.alloc (.cells #[.string r, .slice A ns.length c, .slice A1 ns.length c1, .bool false] 49)).alloc (.map #[] 0)) = W1 at hb1 hX hM ⊢
  have HX := Lib.hid hX
  have HM := Lib.hid (show MapAt W1 (w.heap.size + 1) 0 (ns.take 0) from hM)
  clear hX hM hb0
  go_loopw [10] (fun i wr => ∃ k : Nat, k ≤ ns.length ∧ i = .int .i64 k ∧ Hid (MapAt wr (w.heap.size + 1) k (ns.take k)) ∧ Hid (wr.heap[w.heap.size]? = some (.cells #[.string r, .slice A ns.length c, .slice A1 ns.length c1, .bool false] 49)) ∧ Below w.heap.size w wr) (fun i _ => ns.length - (intOf i).toNat)
  case atStart => exact ⟨0, Nat.zero_le _, rfl, HM, HX, hb1⟩
  case round =>
    obtain ⟨k, hk, rfl, HM, HX, hb⟩ := hrel
    have hsz := hb.size
    have hxl := (Array.getElem?_eq_some_iff.1 HX.out).1
    by_cases hlt : k < ns.length
    · have hlt' : (k : Int) < (ns.length : Int) := by omega
      have hlh : k < hs.length := by rw [HL.out]; exact hlt
      obtain ⟨b, off, rfl, hbB, hcell⟩ := (HN.out.below hb (Nat.le_refl _)).at_ hlt
      have hh2 := HH.out.below hb (Nat.le_refl _)
      obtain ⟨bh, oh, rfl, hbh, hch⟩ := hh2.atI hlh
      have g2 : wr.cell? ⟨w.heap.size, 2, none⟩ = some (.slice (some ⟨bh, oh, none⟩) ns.length c1) := by rw [heap_cell HX.out]; rfl
      have hkey := key_ok ns[k] (HZ.out _ (List.getElem_mem hlt))
      clear hh2
      generalize hs[k] = h at hch
      have HB := Lib.hid hb
      clear hb
      go_wp2_with (at_mapUpdate; refine wpList_mapUpdate_own _ rfl _ _ _ 89 rfl 9 67 keyed Tryd.underlying89 _ (w.heap.size + 1) k _ rfl HM.out (by unfold maxLen; omega) _ _ (kl ns[k]) rfl rfl hkey tt [] (elR_mk h) ?_; intro w1 hown1 hgrow1)
      have hM1 : MapAt w1 (w.heap.size + 1) (k + 1) (ns.take (k + 1)) := by rw [take_snoc _ _ hlt]; exact MapAt.put hown1
      have hX1 : w1.heap[w.heap.size]? = some (Obj.cells #[.string r, .slice (some ⟨b, off, none⟩) ns.length c, .slice (some ⟨bh, oh, none⟩) ns.length c1, .bool false] 49) := (hgrow1.block w.heap.size (by omega) (by intro h; injection h; omega)).trans HX.out
      have hb1 : Below w.heap.size w w1 := HB.out.grown hgrow1 (by omega) (fun k hk => by injection hk; omega)
      have HM1 := Lib.hid hM1
      have HX1 := Lib.hid hX1
      have HB1 := Lib.hid hb1
      clear hM1 hX1 hb1 hown1 hgrow1
      go_wp2_with fail
      go_roundw
      case rel => exact ⟨k + 1, by omega, by go_num, HM1, HX1, HB1.out⟩
      case measure => simp [intOf]; omega
    · obtain rfl : k = ns.length := by omega
      have hM := HM.out
      rw [List.take_length] at hM
      have HMM := Lib.hid (mksimple_any _ _ _ _ hM)
      have HB := Lib.hid hb
      clear hM hb
      go_wp2_with fail
      refine HMM.out.mono ?_
      rintro e w2 ⟨g, u, rfl, hu, hs2, hb2⟩
      have HU := Lib.hid hu
      have HS := Lib.hid hs2
      have HB2 := Lib.hid hb2
      clear hu hs2 hb2
      go_wp2_with fail
      go_ret
      exact ⟨g, u, rfl, HU.out, HS.out, HB.out.trans (HB2.out.mono hsz)⟩

/-- A pointer to an object of package jsonnet. -/
def ObjP (l : List (List ByteArray)) (w : World) (e : Ending) (w' : World) : Prop := ∃ g u, e = .returned (.pointer (some ⟨g, 0, none⟩)) ∧ w'.cell? ⟨g, 2, none⟩ = some u ∧ ObjL w' l u ∧ Below w.heap.size w w'

theorem lt_of_cell {w : World} {g o : Nat} {v : Value} (h : w.cell? ⟨g, o, none⟩ = some v) : g < w.heap.size := by
  unfold World.cell? at h
  cases hg : w.heap[g]? with
  | none => simp [hg] at h
  | some x => exact (Array.getElem?_eq_some_iff.1 hg).1
theorem ObjL.size {w : World} : ∀ {l : List (List ByteArray)} {u : Value}, ObjL w l u → ∃ T g, u = .iface T (.pointer (some ⟨g, 0, none⟩)) ∧ (T = 86 ∧ l.length = 1 ∨ T = 83 ∧ w.cell? ⟨g, 2, none⟩ = some (.int .i64 (l.length : Nat)))
  | [_], _, h => by obtain ⟨g, b, n, rfl, _⟩ := h; exact ⟨86, g, rfl, .inl ⟨rfl, rfl⟩⟩
  | _ :: m :: l, _, h => by obtain ⟨g, L, R, rfl, hg, _⟩ := h; exact ⟨83, g, rfl, .inr ⟨rfl, by rw [heap_cell hg]; rfl⟩⟩

theorem three_at1 (w : World) (o1 o2 o3 : Obj) : (((w.alloc o1).alloc o2).alloc o3).drew.heap[w.heap.size]? = some o1 := heap_after (heap_after (heap_alloc_new w _) _) _
theorem three_at2 (w : World) (o1 o2 o3 : Obj) : (((w.alloc o1).alloc o2).alloc o3).drew.heap[w.heap.size + 1]? = some o2 := by
  refine heap_after (w := (w.alloc o1).alloc o2) ?_ o3
  have := heap_alloc_new (w.alloc o1) o2
  rwa [World.size_alloc] at this
theorem ext_done {w W : World} {l : List (List ByteArray)} {ns : List ByteArray} {u1 u2 : Value} {gE gV : Nat} {n : Int} (h1 : ObjL w l u1) (h2 : SimpV w u2 ns) (hb : Below w.heap.size w W) (hn : n = ((l.length + 1 : Nat) : Int))
    (hE : W.heap[gE]? = some (.cells #[u1, u2, .int .i64 n] 85)) (hV : W.cell? ⟨gV, 2, none⟩ = some (.iface 83 (.pointer (some ⟨gE, 0, none⟩)))) : ObjP (ns :: l) w (.returned (.pointer (some ⟨gV, 0, none⟩))) W := by
  refine ⟨gV, _, rfl, hV, ?_, hb⟩
  match l, h1, hn with
  | m :: l', h1, hn =>
    subst hn
    exact ⟨gE, u1, u2, rfl, hE, h1.below hb, h2.below hb⟩

set_option maxRecDepth 100000 in
set_option maxHeartbeats 2000000 in
theorem mkext_any (g1 g2 : Nat) (u1 u2 : Value) (ns : List ByteArray) (l : List (List ByteArray)) (w : World) (hl : l.length ≤ 100) (c1 : w.cell? ⟨g1, 2, none⟩ = some u1) (c2 : w.cell? ⟨g2, 2, none⟩ = some u2) (h1 : ObjL w l u1) (h2 : SimpV w u2 ns) :
    Calls Tryd.prog 25 #[.pointer (some ⟨g1, 0, none⟩), .pointer (some ⟨g2, 0, none⟩)] w (ObjP (ns :: l) w) := by
  have H1 := Lib.hid h1
  have H2 := Lib.hid h2
  obtain ⟨T, q1, rfl, hT⟩ := h1.size
  obtain ⟨q2, b2, n2, rfl, _⟩ := h2
  have hm := mkmap57
  have l1 := lt_of_cell c1
  have l2 := lt_of_cell c2
  have a1 : ∀ o, (w.alloc o).cell? ⟨g1, 2, none⟩ = some (.iface T (.pointer (some ⟨q1, 0, none⟩))) := fun o => (((Below.refl w.heap.size w).alloc (Nat.le_refl _) o).cell (p := ⟨g1, 2, none⟩) l1).trans c1
  have a2 : ∀ o, (w.alloc o).cell? ⟨g2, 2, none⟩ = some (.iface 86 (.pointer (some ⟨q2, 0, none⟩))) := fun o => (((Below.refl w.heap.size w).alloc (Nat.le_refl _) o).cell (p := ⟨g2, 2, none⟩) l2).trans c2
  have m2 : ∀ w, (method 352 86 (.pointer (some ⟨q2, 0, none⟩)) "given.example/pub-rondel/pub/jsonnet.inheritanceSize").run Tryd.prog w = .ok (72, .pointer (some ⟨q2, 0, none⟩)) w := fun w => by kernel_rfl
  rcases hT with ⟨rfl, hlen⟩ | ⟨rfl, hc⟩
  · have m1 : ∀ w, (method 352 86 (.pointer (some ⟨q1, 0, none⟩)) "given.example/pub-rondel/pub/jsonnet.inheritanceSize").run Tryd.prog w = .ok (72, .pointer (some ⟨q1, 0, none⟩)) w := fun w => by kernel_rfl
    go_enter Tryd.func25, Tryd.ntmps25
    go_wp2_with fail
    go_region_held3 (fun w' => w'.cell? ⟨g1, 2, none⟩ = some (.iface 86 (.pointer (some ⟨q1, 0, none⟩))) ∧ w'.cell? ⟨g2, 2, none⟩ = some (.iface 86 (.pointer (some ⟨q2, 0, none⟩))))
      (go_keep)
      (first
        | (go_at_call 72; refine (size72_any _ _).mono ?_; rintro e w' ⟨rfl, rfl⟩))
    all_goals
      go_wp2_with fail
      go_ret
      have hb3 := fun o1 o2 o3 => ((((Below.refl w.heap.size w).alloc (Nat.le_refl _) o1).alloc (by simp) o2).alloc (by simp; omega) o3).drew
      first
        | exact ext_done (n := IntKind.i64.wrap 2) H1.out H2.out (hb3 _ _ _) (by rw [hlen]; rfl) (three_at2 w _ _ _) (by simp [go_sem])
        | exact ext_done (n := IntKind.i64.wrap 2) H1.out H2.out (hb3 _ _ _) (by rw [hlen]; rfl) (three_at1 w _ _ _) (by simp [go_sem])
  · have m1 : ∀ w, (method 352 83 (.pointer (some ⟨q1, 0, none⟩)) "given.example/pub-rondel/pub/jsonnet.inheritanceSize").run Tryd.prog w = .ok (71, .pointer (some ⟨q1, 0, none⟩)) w := fun w => by kernel_rfl
    have lq := lt_of_cell hc
    have hw : IntKind.i64.wrap ((l.length : Int) + 1) = ((l.length + 1 : Nat) : Int) := by simp [IntKind.wrap, IntKind.bits, IntKind.signed]; omega
    have HW := Lib.hid hw
    clear hw
    have hc1 : ∀ o, (w.alloc o).cell? ⟨q1, 2, none⟩ = some (.int .i64 (l.length : Nat)) := fun o => (((Below.refl w.heap.size w).alloc (Nat.le_refl _) o).cell (p := ⟨q1, 2, none⟩) lq).trans hc
    have hc2 : ∀ o o', ((w.alloc o).alloc o').cell? ⟨q1, 2, none⟩ = some (.int .i64 (l.length : Nat)) := fun o o' => ((((Below.refl w.heap.size w).alloc (Nat.le_refl _) o).alloc (by simp) o').cell (p := ⟨q1, 2, none⟩) lq).trans hc
    go_enter Tryd.func25, Tryd.ntmps25
    go_wp2_with fail
    go_region_held3 (fun w' => w'.cell? ⟨g1, 2, none⟩ = some (.iface 83 (.pointer (some ⟨q1, 0, none⟩))) ∧ w'.cell? ⟨g2, 2, none⟩ = some (.iface 86 (.pointer (some ⟨q2, 0, none⟩))))
      (go_keep)
      (first
        | (go_at_call 72; refine (size72_any _ _).mono ?_; rintro e w' ⟨rfl, rfl⟩)
        | (go_at_call 71; refine (size71_any q1 _ _ (by first | exact hc | exact hc1 _ | exact hc2 _ _)).mono ?_; rintro e w' ⟨rfl, rfl⟩))
    all_goals
      go_wp2_with fail
      go_ret
      have hb3 := fun o1 o2 o3 => ((((Below.refl w.heap.size w).alloc (Nat.le_refl _) o1).alloc (by simp) o2).alloc (by simp; omega) o3).drew
      first
        | exact ext_done (n := IntKind.i64.wrap (l.length + 1)) H1.out H2.out (hb3 _ _ _) HW.out (three_at2 w _ _ _) (by simp [go_sem])
        | exact ext_done (n := IntKind.i64.wrap (l.length + 1)) H1.out H2.out (hb3 _ _ _) HW.out (three_at1 w _ _ _) (by simp [go_sem])
end Go.Proofs.YtadehfoamdkcmaaDoor
