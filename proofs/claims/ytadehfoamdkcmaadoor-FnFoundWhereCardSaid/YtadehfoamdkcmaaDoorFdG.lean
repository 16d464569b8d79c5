/- The contract of findField. -/
import Derived.Test.YtadehfoamdkcmaaDoorFdE
namespace Go.Proofs.YtadehfoamdkcmaaDoor
open Go.RowKit
set_option linter.unusedSimpArgs false

open Classical in
/-- How deep a field is found, from a depth on; the rightmost object comes first. -/
noncomputable def ff : List (List ByteArray) → Int → ByteArray → Option Nat
  | [], _, _ => none
  | ns :: l, m, f => if m ≤ 0 ∧ f ∈ ns then some 0 else (ff l (m - 1) f).map (· + 1)

def FfP (l : List (List ByteArray)) (m : Int) (f : ByteArray) (w : World) (e : Ending) (w' : World) : Prop :=
  ∃ h at_, e = .returned (.tuple #[.bool (ff l m f).isSome, .agg #[.nilIface, .int .i64 h], .map none, .slice none 0 0, .int .i64 at_]) ∧ (∀ d, ff l m f = some d → at_ = (d : Int)) ∧ 0 ≤ at_ ∧ at_ ≤ l.length ∧ Below w.heap.size w w'

theorem deeper {ns : List ByteArray} {l : List (List ByteArray)} {m h at_ : Int} {f : ByteArray} {w W : World} (hn : ff (ns :: l) m f = (ff l (m - 1) f).map (· + 1)) (ha : ∀ d, ff l (m - 1) f = some d → at_ = (d : Int)) (h0 : 0 ≤ at_) (h1 : at_ ≤ (l.length : Nat)) (hb : Below w.heap.size w W) :
    FfP (ns :: l) m f w (.returned (.tuple #[.bool (ff l (m - 1) f).isSome, .agg #[.nilIface, .int .i64 h], .map none, .slice none 0 0, .int .i64 (at_ + 1)])) W := by
  refine ⟨h, at_ + 1, by rw [hn, Option.isSome_map], fun d hd => ?_, by omega, by simp only [List.length_cons]; omega, hb⟩
  rw [hn] at hd
  obtain ⟨d', hd', rfl⟩ := Option.map_eq_some_iff.1 hd
  rw [ha d' hd']
  rfl
theorem below_undrew {w w' : World} (h : Below w.drew.heap.size w.drew w') : Below w.heap.size w w' := ⟨h.os, h.tape, h.output, h.size, h.block⟩

theorem as1 (v : Value) (w : World) : (Instr.typeAssert (.iface 86 v) 59 83 true).run Tryd.prog w = .ok (.tuple #[.pointer none, .bool false]) w := by kernel_rfl
theorem as2 (v : Value) (w : World) : (Instr.typeAssert (.iface 86 v) 59 81 true).run Tryd.prog w = .ok (.tuple #[.pointer none, .bool false]) w := by kernel_rfl
theorem as3 (v : Value) (w : World) : (Instr.typeAssert (.iface 86 v) 59 86 true).run Tryd.prog w = .ok (.tuple #[v, .bool true]) w := by kernel_rfl
theorem as4 (v : Value) (w : World) : (Instr.typeAssert (.iface 83 v) 59 83 true).run Tryd.prog w = .ok (.tuple #[v, .bool true]) w := by kernel_rfl

theorem simp_some {ns : List ByteArray} {m : Int} {f : ByteArray} (h : m ≤ 0 ∧ f ∈ ns) (l : List (List ByteArray)) : ff (ns :: l) m f = some 0 := by unfold ff; exact if_pos h
theorem simp_none {ns : List ByteArray} {m : Int} {f : ByteArray} (h : ¬(m ≤ 0 ∧ f ∈ ns)) (l : List (List ByteArray)) : ff (ns :: l) m f = (ff l (m - 1) f).map (· + 1) := by conv => lhs; unfold ff; rw [if_neg h]

set_option maxRecDepth 100000 in
set_option maxHeartbeats 4000000 in
theorem find_simple (ns : List ByteArray) (u : Value) (m : Int) (f : ByteArray) (w : World) (hS : SimpV w u ns) (hf : f.size ≤ maxLen) :
    Calls Tryd.prog 21 #[u, .int .i64 m, .string f] w (FfP [ns] m f w) := by
  obtain ⟨g, b, n, rfl, hg, hM⟩ := hS
  have hkey := key_ok f hf
  have a1 := as1
  have a2 := as2
  have a3 := as3
  have hgl := (Array.getElem?_eq_some_iff.1 hg).1
  have hgo : ∀ o, (w.alloc o).heap[g]? = some (.cells #[.map none, .map (some b), .slice none 0 0, .slice none 0 0] 92) := fun o => heap_after hg o
  have e0 : ∀ o, (w.alloc o).cell? ⟨g, 0, none⟩ = some (.map none) := fun o => by rw [heap_cell (hgo o)]; rfl
  have e1 : ∀ o, (w.alloc o).cell? ⟨g, 1, none⟩ = some (.map (some b)) := fun o => by rw [heap_cell (hgo o)]; rfl
  have e3 : ∀ o, (w.alloc o).cell? ⟨g, 3, none⟩ = some (.slice none 0 0) := fun o => by rw [heap_cell (hgo o)]; rfl
  have hin := has_keys ns f
  by_cases hm : m ≤ 0
  · have hM3 := World.ownsMap.alloc hM (.cells #[.nilIface, .int .i64 0] 67)
    obtain ⟨v1, p1, hrun1, hR⟩ := hM3.look_ok keyed Tryd.underlying89 (zero_field _) (elR_mk 0) hkey
    obtain ⟨h1, rfl⟩ := elR_inv hR
    have HI := Lib.hid hin
    clear hin hM3 hM hR
    cases hh : Maps.has (Maps.setOf tt (keys ns)) (kl f) with
    | true =>
      have HF := Lib.hid (simp_some ⟨hm, HI.out.1 hh⟩ [])
      rw [hh] at hrun1
      clear hh
      have x0 : ∀ o o', ((w.alloc o).alloc o').cell? ⟨g, 0, none⟩ = some (.map none) := fun o o' => by rw [heap_cell (heap_after (hgo o) o')]; rfl
      have x3 : ∀ o o', ((w.alloc o).alloc o').cell? ⟨g, 3, none⟩ = some (.slice none 0 0) := fun o o' => by rw [heap_cell (heap_after (hgo o) o')]; rfl
      go_enter Tryd.func21, Tryd.ntmps21
      go_wp2_with fail
      go_region_held3 (fun w' => w'.cell? ⟨g, 0, none⟩ = some (.map none) ∧ w'.cell? ⟨g, 3, none⟩ = some (.slice none 0 0) ∧ w'.cell? ⟨w.heap.size + 1, 0, none⟩ = some .nilIface ∧ w'.cell? ⟨w.heap.size + 1, 1, none⟩ = some (.int .i64 h1))
        (go_keep)
        (fail)
      all_goals
        go_wp2_with fail
        refine bodyPost_ret (v := .tuple #[.bool true, .agg #[.nilIface, .int .i64 h1], .map none, .slice none 0 0, .int .i64 0]) (by simp [results, Tryd.results21, go_sem]) rfl ?_
        exact ⟨h1, 0, by rw [HF.out]; rfl, (fun d hd => by rw [HF.out] at hd; injection hd with hd; rw [← hd]; rfl), Int.le_refl _, by omega, (((Below.refl w.heap.size w).alloc (Nat.le_refl _) _).alloc (by simp) _).drew⟩
    | false =>
      have HF := Lib.hid (simp_none (l := []) (m := m) (f := f) (ns := ns) (fun h => by have := HI.out.2 h.2; rw [hh] at this; cases this))
      rw [hh] at hrun1
      clear hh
      go_enter Tryd.func21, Tryd.ntmps21
      go_wp2_with fail
      refine bodyPost_ret (v := .tuple #[.bool false, .agg #[.nilIface, .int .i64 0], .map none, .slice none 0 0, .int .i64 0]) (by simp [results, Tryd.results21, go_sem]) rfl ?_
      exact ⟨0, 0, by rw [HF.out]; rfl, (fun d hd => by rw [HF.out] at hd; cases hd), Int.le_refl _, by omega, ((Below.refl _ _).alloc (Nat.le_refl _) _).alloc (by simp) _⟩
  · have hm' : 0 < m := by omega
    have HF := Lib.hid (simp_none (l := []) (m := m) (f := f) (ns := ns) (fun h => hm h.1))
    clear hin
    go_enter Tryd.func21, Tryd.ntmps21
    go_wp2_with fail
    refine bodyPost_ret (v := .tuple #[.bool false, .agg #[.nilIface, .int .i64 0], .map none, .slice none 0 0, .int .i64 0]) (by simp [results, Tryd.results21, go_sem]) rfl ?_
    exact ⟨0, 0, by rw [HF.out]; rfl, (fun d hd => by rw [HF.out] at hd; cases hd), Int.le_refl _, by omega, (Below.refl _ _).alloc (Nat.le_refl _) _⟩
set_option maxRecDepth 100000 in
set_option maxHeartbeats 8000000 in
theorem find_any (f : ByteArray) (hf : f.size ≤ maxLen) : ∀ (l : List (List ByteArray)) (u : Value) (m : Int) (w : World), ObjL w l u → l.length ≤ 100 → (l.length : Int) - 1000 ≤ m → m ≤ 1000 → Calls Tryd.prog 21 #[u, .int .i64 m, .string f] w (FfP l m f w)
  | [], _, _, _, h, _, _, _ => h.elim
  | [ns], u, m, w, h, _, _, _ => find_simple ns u m f w h hf
  | ns :: n2 :: l, u, m, w, h, hl, hm0, hm1 => by
    obtain ⟨g, L, R, rfl, hg, hL, hR⟩ := h
    have HLl := Lib.hid hL
    have HR := Lib.hid hR
    obtain ⟨g2, b2, k2, rfl, _⟩ := hR
    have hl2 : (n2 :: l).length ≤ 100 := by simp only [List.length_cons] at hl ⊢; omega
    have hm2 : ((n2 :: l).length : Int) - 1000 ≤ m - 1 := by simp only [List.length_cons] at hm0 ⊢; omega
    have IH := Lib.hid (fun W (hW : Below w.heap.size w W) => find_any f hf (n2 :: l) L (m - 1) W (hL.below hW) hl2 hm2 (by omega))
    have IS := Lib.hid (fun W (hW : Below w.heap.size w W) => find_simple ns (.iface 86 (.pointer (some ⟨g2, 0, none⟩))) m f W (HR.out.below hW) hf)
    clear hL hl2 hm2
    have hmA : -1000 ≤ m := by omega
    have hwr : IntKind.i64.wrap (m - 1) = m - 1 := by simp [IntKind.wrap, IntKind.bits, IntKind.signed]; omega
    have a4 := as4
    have ms : ∀ w, (method 352 86 (.pointer (some ⟨g2, 0, none⟩)) "given.example/pub-rondel/pub/jsonnet.inheritanceSize").run Tryd.prog w = .ok (72, .pointer (some ⟨g2, 0, none⟩)) w := fun w => by kernel_rfl
    have HG := Lib.hid (fun (W : World) (hW : Below w.heap.size w W) => heap_below hg hW)
    have hl3 : l.length ≤ 98 := by simp only [List.length_cons] at hl; omega
    have hln : (n2 :: l).length = l.length + 1 := rfl
    have hB1 := Lib.hid ((Below.refl w.heap.size w).alloc (Nat.le_refl _) (.cells #[.nilIface, .int .i64 0] 67))
    have e0 : (w.alloc (.cells #[.nilIface, .int .i64 0] 67)).cell? ⟨g, 0, none⟩ = some L := by rw [heap_cell (HG.out _ hB1.out)]; rfl
    have e1 : (w.alloc (.cells #[.nilIface, .int .i64 0] 67)).cell? ⟨g, 1, none⟩ = some (.iface 86 (.pointer (some ⟨g2, 0, none⟩))) := by rw [heap_cell (HG.out _ hB1.out)]; rfl
    simp only [List.length_cons] at hm0
    have hgl := (Array.getElem?_eq_some_iff.1 hg).1
    have HGH := Lib.hid (fun (W : World) (hW : Below w.heap.size w W) => show W.cell? ⟨g, 1, none⟩ = some (.iface 86 (.pointer (some ⟨g2, 0, none⟩))) by rw [heap_cell (HG.out _ hW)]; rfl)
    have HGK := Lib.hid (fun (W : World) (hW : Below w.heap.size w W) => show W.cell? ⟨g, 0, none⟩ = some L by rw [heap_cell (HG.out _ hW)]; rfl)
    by_cases hm : m ≤ 0
    · have hq : m < 1 := by omega
      have H70 := Lib.hid (heap_alloc_new w (.cells #[.nilIface, .int .i64 0] 67))
      by_cases hin : f ∈ ns
      · have HFY := Lib.hid (simp_some ⟨hm, hin⟩ (n2 :: l))
        have HF1 := Lib.hid (simp_some ⟨hm, hin⟩ [])
        clear hin
        go_enter Tryd.func21, Tryd.ntmps21
        go_wp2_with (first
          | (go_at_call 72; refine (size72_any _ _).mono ?_; rintro e w' ⟨rfl, rfl⟩))
        refine (IS.out _ hB1.out).mono ?_
        rintro e w2 ⟨h, at_, rfl, hat, ha0, ha1, hb2⟩
        obtain rfl : at_ = 0 := hat 0 HF1.out
        rw [HF1.out]
        have H72 := Lib.hid (heap_below H70.out hb2)
        have HB2 := Lib.hid (bnext hB1.out hb2)
        clear hat ha0 ha1 hb2 hg e0 e1 IH IS
        have hS2 := (Array.getElem?_eq_some_iff.1 H72.out).1
        have hP := heap_alloc_new w2 (.cells #[.nilIface, .int .i64 h] 67)
        have h7 := heap_after H72.out (.cells #[.nilIface, .int .i64 h] 67)
        have hB6 := HB2.out.alloc HB2.out.size (.cells #[.nilIface, .int .i64 h] 67)
        go_wp2_with fail
        generalize w2.alloc (.cells #[.nilIface, .int .i64 h] 67) = W6 at hP h7 hB6 ⊢
        generalize w2.heap.size = p at hP hS2 ⊢
        have x0 : W6.cell? ⟨p, 0, none⟩ = some .nilIface := by rw [heap_cell hP]; rfl
        have x1 : W6.cell? ⟨p, 1, none⟩ = some (.int .i64 h) := by rw [heap_cell hP]; rfl
        have s0 : W6.cell? ⟨w.heap.size, 0, none⟩ = some .nilIface := by rw [heap_cell h7]; rfl
        have s1 : W6.cell? ⟨w.heap.size, 1, none⟩ = some (.int .i64 0) := by rw [heap_cell h7]; rfl
        have f0 := heap_free h7 0
        have f1 := heap_free h7 1
        have n1 : ¬ w.heap.size = p := by omega
        have n2' : ¬ p = w.heap.size := by omega
        have HB6 := Lib.hid hB6
        have H76 := Lib.hid h7
        clear hB6 hP h7
        go_region_held3 (fun w' => w'.cell? ⟨p, 0, none⟩ = some .nilIface ∧ w'.cell? ⟨p, 1, none⟩ = some (.int .i64 h))
          (go_keep)
          (fail)
        all_goals
          go_wp2_with fail
          have hE := (show _ = some (Obj.cells #[.nilIface, .int .i64 h] 67) from heap_set (heap_set H76.out 0 .nilIface) 1 (.int .i64 h))
          have hB7 := ((HB6.out.setCell (p := ⟨w.heap.size, 0, none⟩) (Nat.le_refl _) .nilIface).setCell (p := ⟨w.heap.size, 1, none⟩) (Nat.le_refl _) (.int .i64 h)).drew
          have r0 : (((W6.setCell ⟨w.heap.size, 0, none⟩ .nilIface).setCell ⟨w.heap.size, 1, none⟩ (.int .i64 h)).drew).cell? ⟨w.heap.size, 0, none⟩ = some .nilIface := by rw [heap_cell (w := ((W6.setCell ⟨w.heap.size, 0, none⟩ .nilIface).setCell ⟨w.heap.size, 1, none⟩ (.int .i64 h)).drew) hE]; rfl
          have r1 : (((W6.setCell ⟨w.heap.size, 0, none⟩ .nilIface).setCell ⟨w.heap.size, 1, none⟩ (.int .i64 h)).drew).cell? ⟨w.heap.size, 1, none⟩ = some (.int .i64 h) := by rw [heap_cell (w := ((W6.setCell ⟨w.heap.size, 0, none⟩ .nilIface).setCell ⟨w.heap.size, 1, none⟩ (.int .i64 h)).drew) hE]; rfl
          generalize ((W6.setCell ⟨w.heap.size, 0, none⟩ .nilIface).setCell ⟨w.heap.size, 1, none⟩ (.int .i64 h)).drew = W7 at hB7 r0 r1 ⊢
          refine bodyPost_ret (v := .tuple #[.bool true, .agg #[.nilIface, .int .i64 h], .map none, .slice none 0 0, .int .i64 0]) (by simp [results, Tryd.results21, go_sem, r0, r1]) rfl ?_
          exact ⟨h, 0, by rw [HFY.out]; rfl, (fun d hd => by rw [HFY.out] at hd; injection hd with hd; rw [← hd]; rfl), Int.le_refl _, by omega, hB7⟩
      · have HFN := Lib.hid (simp_none (l := n2 :: l) (m := m) (f := f) (ns := ns) (fun h => hin h.2))
        have HF1 := Lib.hid (simp_none (l := []) (m := m) (f := f) (ns := ns) (fun h => hin h.2))
        clear hin
        go_enter Tryd.func21, Tryd.ntmps21
        go_wp2_with (first
          | (go_at_call 72; refine (size72_any _ _).mono ?_; rintro e w' ⟨rfl, rfl⟩))
        refine (IS.out _ hB1.out).mono ?_
        rintro e w2 ⟨h, at_, rfl, hat, ha0, ha1, hb2⟩
        rw [show (ff [ns] m f).isSome = false by rw [HF1.out]; rfl]
        have H72 := Lib.hid (heap_below H70.out hb2)
        have HB2 := Lib.hid (bnext hB1.out hb2)
        clear hat ha0 ha1 hb2 hg e0 e1 IS
        have e0 := HGK.out _ (HB2.out.alloc HB2.out.size (.cells #[.nilIface, .int .i64 h] 67))
        have e1 := HGH.out _ (HB2.out.alloc HB2.out.size (.cells #[.nilIface, .int .i64 h] 67))
        go_wp2_with fail
        have HW := Lib.hid (HB2.out.alloc HB2.out.size (.cells #[.nilIface, .int .i64 h] 67))
        have H7 := Lib.hid (heap_after H72.out (.cells #[.nilIface, .int .i64 h] 67))
        generalize w2.alloc (.cells #[.nilIface, .int .i64 h] 67) = Wc at e0 e1 HW H7 ⊢
        clear HLl HR hB1 HG a4
        have hgW : g < Wc.heap.size := lt_of_cell e0
        have hSW : w.heap.size < Wc.heap.size := (Array.getElem?_eq_some_iff.1 H7.out).1
        have hgS : ¬ g = Wc.heap.size := by omega
        have hSg : ¬ Wc.heap.size = g := by omega
        go_region_held3 (fun w' => w'.cell? ⟨g, 0, none⟩ = some L ∧ w'.cell? ⟨g, 1, none⟩ = some (.iface 86 (.pointer (some ⟨g2, 0, none⟩))))
          (go_keep)
          (first
            | (go_at_call 72; refine (size72_any _ _).mono ?_; rintro e w' ⟨rfl, rfl⟩)
            | (go_at_call 21; (with_reducible refine (IH.out Wc.drew HW.out.drew).mono ?_); rintro e w5 ⟨h5, at5, rfl, hat5, hlo5, hhi5, hb5⟩; have hb5 := below_undrew hb5; have HAT := Lib.hid hat5; have HB5 := Lib.hid (HW.out.trans (hb5.mono HW.out.size)); have H75 := Lib.hid ((hb5.block w.heap.size hSW).trans H7.out); clear hat5; have hc5 := And.intro ((hb5.cell (p := ⟨g, 0, none⟩) hgW).trans e0) ((hb5.cell (p := ⟨g, 1, none⟩) hgW).trans e1); clear hb5)
            | (go_at_call 21; (with_reducible refine (IH.out (Wc.alloc (.cells #[.nilIface, .int .i64 0] 67)).drew (HW.out.alloc HW.out.size _).drew).mono ?_); rintro e w5 ⟨h5, at5, rfl, hat5, hlo5, hhi5, hb5⟩; have hb5 := below_undrew hb5; have HAT := Lib.hid hat5; have HB5 := Lib.hid ((HW.out.alloc HW.out.size (.cells #[.nilIface, .int .i64 0] 67)).trans (hb5.mono (by have := HW.out.size; simp; omega))); have H75 := Lib.hid ((hb5.block w.heap.size (by show _ < (Wc.alloc _).heap.size; simp; omega)).trans (heap_after H7.out _)); have hp5 := (hb5.block Wc.heap.size (by show _ < (Wc.alloc _).heap.size; simp)).trans (heap_alloc_new Wc (.cells #[.nilIface, .int .i64 0] 67)); clear hat5; have hc5 := And.intro ((hb5.cell (p := ⟨g, 0, none⟩) (by show g < (Wc.alloc _).heap.size; simp; omega)).trans (((Below.refl Wc.heap.size Wc).alloc (Nat.le_refl _) _).cell (p := ⟨g, 0, none⟩) hgW |>.trans e0)) ((hb5.cell (p := ⟨g, 1, none⟩) (by show g < (Wc.alloc _).heap.size; simp; omega)).trans (((Below.refl Wc.heap.size Wc).alloc (Nat.le_refl _) _).cell (p := ⟨g, 1, none⟩) hgW |>.trans e1)); have hx0 : w5.cell? ⟨Wc.heap.size, 0, none⟩ = some .nilIface := (by rw [heap_cell hp5]; rfl); have hx1 : w5.cell? ⟨Wc.heap.size, 1, none⟩ = some (.int .i64 0) := (by rw [heap_cell hp5]; rfl); have hy0 := heap_free hp5 0; have hy1 := heap_free hp5 1; have HP5 := Lib.hid hp5; clear hp5 hb5))
        all_goals
          first
            | (have hP := (show _ = some (Obj.cells #[.nilIface, .int .i64 h5] 67) from heap_set (heap_set HP5.out 0 .nilIface) 1 (.int .i64 h5))
               have h7 := (heap_set_other (g := Wc.heap.size) (b := w.heap.size) (by omega) 1 (.int .i64 h5)).trans ((heap_set_other (g := Wc.heap.size) (b := w.heap.size) (by omega) 0 .nilIface).trans H75.out)
               have hB6 := (HB5.out.setCell (p := ⟨Wc.heap.size, 0, none⟩) (by show _ ≤ Wc.heap.size; omega) .nilIface).setCell (p := ⟨Wc.heap.size, 1, none⟩) (by show _ ≤ Wc.heap.size; omega) (.int .i64 h5)
               have hSp : w.heap.size < Wc.heap.size := hSW
               generalize (w5.setCell ⟨Wc.heap.size, 0, none⟩ .nilIface).setCell ⟨Wc.heap.size, 1, none⟩ (.int .i64 h5) = W6 at hP h7 hB6 ⊢
               clear hx0 hx1 hy0 hy1
               clear HP5
               generalize Wc.heap.size = p at hP hSp ⊢)
            | (have hP := heap_alloc_new w5 (.cells #[.nilIface, .int .i64 h5] 67)
               have h7 := heap_after H75.out (.cells #[.nilIface, .int .i64 h5] 67)
               have hB6 := HB5.out.alloc HB5.out.size (.cells #[.nilIface, .int .i64 h5] 67)
               have hSp : w.heap.size < w5.heap.size := (Array.getElem?_eq_some_iff.1 H75.out).1
               generalize w5.alloc (.cells #[.nilIface, .int .i64 h5] 67) = W6 at hP h7 hB6 ⊢
               generalize w5.heap.size = p at hP hSp ⊢)
        all_goals
          have hg6 := HGH.out _ hB6
          have x0 : W6.cell? ⟨p, 0, none⟩ = some .nilIface := by rw [heap_cell hP]; rfl
          have x1 : W6.cell? ⟨p, 1, none⟩ = some (.int .i64 h5) := by rw [heap_cell hP]; rfl
          have s0 : W6.cell? ⟨w.heap.size, 0, none⟩ = some .nilIface := by rw [heap_cell h7]; rfl
          have s1 : W6.cell? ⟨w.heap.size, 1, none⟩ = some (.int .i64 0) := by rw [heap_cell h7]; rfl
          have f0 := heap_free h7 0
          have f1 := heap_free h7 1
          have hhi6 : at5 ≤ 1000 := by have := hln; have := hl3; omega
          have n1 : ¬ w.heap.size = p := by omega
          have n2' : ¬ p = w.heap.size := by omega
          have n3 : ¬ g = w.heap.size := by omega
          have n4 : ¬ w.heap.size = g := by omega
          have HB6 := Lib.hid hB6
          have HHI := Lib.hid hhi5
          have H76 := Lib.hid h7
          have hw5 : IntKind.i64.wrap (at5 + 1) = at5 + 1 := by simp [IntKind.wrap, IntKind.bits, IntKind.signed]; omega
          clear hhi5 hB6 hP h7 HB5 H75 hgS hSg hgW HW H7
          try clear hc5
          go_wp2_with fail
          go_region_held3 (fun w' => w'.cell? ⟨g, 1, none⟩ = some (.iface 86 (.pointer (some ⟨g2, 0, none⟩))) ∧ w'.cell? ⟨p, 0, none⟩ = some .nilIface ∧ w'.cell? ⟨p, 1, none⟩ = some (.int .i64 h5))
            (go_keep)
            (first
              | (go_at_call 72; refine (size72_any _ _).mono ?_; rintro e w' ⟨rfl, rfl⟩))
          all_goals
            go_wp2_with fail
            have hE := (show _ = some (Obj.cells #[.nilIface, .int .i64 h5] 67) from heap_set (heap_set H76.out 0 .nilIface) 1 (.int .i64 h5))
            have hB7 := ((HB6.out.setCell (p := ⟨w.heap.size, 0, none⟩) (Nat.le_refl _) .nilIface).setCell (p := ⟨w.heap.size, 1, none⟩) (Nat.le_refl _) (.int .i64 h5)).drew
            have r0 : (((W6.setCell ⟨w.heap.size, 0, none⟩ .nilIface).setCell ⟨w.heap.size, 1, none⟩ (.int .i64 h5)).drew).cell? ⟨w.heap.size, 0, none⟩ = some .nilIface := by rw [heap_cell (w := ((W6.setCell ⟨w.heap.size, 0, none⟩ .nilIface).setCell ⟨w.heap.size, 1, none⟩ (.int .i64 h5)).drew) hE]; rfl
            have r1 : (((W6.setCell ⟨w.heap.size, 0, none⟩ .nilIface).setCell ⟨w.heap.size, 1, none⟩ (.int .i64 h5)).drew).cell? ⟨w.heap.size, 1, none⟩ = some (.int .i64 h5) := by rw [heap_cell (w := ((W6.setCell ⟨w.heap.size, 0, none⟩ .nilIface).setCell ⟨w.heap.size, 1, none⟩ (.int .i64 h5)).drew) hE]; rfl
            generalize ((W6.setCell ⟨w.heap.size, 0, none⟩ .nilIface).setCell ⟨w.heap.size, 1, none⟩ (.int .i64 h5)).drew = W7 at hB7 r0 r1 ⊢
            refine bodyPost_ret (v := .tuple #[.bool (ff (n2 :: l) (m - 1) f).isSome, .agg #[.nilIface, .int .i64 h5], .map none, .slice none 0 0, .int .i64 (at5 + 1)]) (by simp [results, Tryd.results21, go_sem, r0, r1, hw5]) rfl ?_
            exact deeper HFN.out HAT.out hlo5 HHI.out hB7
    · have hq : ¬ m < 1 := by omega
      have HFN := Lib.hid (simp_none (l := n2 :: l) (m := m) (f := f) (ns := ns) (fun h => hm h.1))
      go_enter Tryd.func21, Tryd.ntmps21
      go_wp2_with (first
        | (go_at_call 72; refine (size72_any _ _).mono ?_; rintro e w' ⟨rfl, rfl⟩))
      have HW := Lib.hid hB1.out
      have H7 := Lib.hid (heap_alloc_new w (.cells #[.nilIface, .int .i64 0] 67))
      clear hg a4 HLl HR IS hB1 HG
      generalize w.alloc (.cells #[.nilIface, .int .i64 0] 67) = Wc at e0 e1 HW H7 ⊢
      have hgW : g < Wc.heap.size := lt_of_cell e0
      have hSW : w.heap.size < Wc.heap.size := (Array.getElem?_eq_some_iff.1 H7.out).1
      have hgS : ¬ g = Wc.heap.size := by omega
      have hSg : ¬ Wc.heap.size = g := by omega
      go_region_held3 (fun w' => w'.cell? ⟨g, 0, none⟩ = some L ∧ w'.cell? ⟨g, 1, none⟩ = some (.iface 86 (.pointer (some ⟨g2, 0, none⟩))))
        (go_keep)
        (first
          | (go_at_call 72; refine (size72_any _ _).mono ?_; rintro e w' ⟨rfl, rfl⟩)
          | (go_at_call 21; (with_reducible refine (IH.out Wc.drew HW.out.drew).mono ?_); rintro e w5 ⟨h5, at5, rfl, hat5, hlo5, hhi5, hb5⟩; have hb5 := below_undrew hb5; have HAT := Lib.hid hat5; have HB5 := Lib.hid (HW.out.trans (hb5.mono HW.out.size)); have H75 := Lib.hid ((hb5.block w.heap.size hSW).trans H7.out); clear hat5; have hc5 := And.intro ((hb5.cell (p := ⟨g, 0, none⟩) hgW).trans e0) ((hb5.cell (p := ⟨g, 1, none⟩) hgW).trans e1); clear hb5)
          | (go_at_call 21; (with_reducible refine (IH.out (Wc.alloc (.cells #[.nilIface, .int .i64 0] 67)).drew (HW.out.alloc HW.out.size _).drew).mono ?_); rintro e w5 ⟨h5, at5, rfl, hat5, hlo5, hhi5, hb5⟩; have hb5 := below_undrew hb5; have HAT := Lib.hid hat5; have HB5 := Lib.hid ((HW.out.alloc HW.out.size (.cells #[.nilIface, .int .i64 0] 67)).trans (hb5.mono (by have := HW.out.size; simp; omega))); have H75 := Lib.hid ((hb5.block w.heap.size (by show _ < (Wc.alloc _).heap.size; simp; omega)).trans (heap_after H7.out _)); have hp5 := (hb5.block Wc.heap.size (by show _ < (Wc.alloc _).heap.size; simp)).trans (heap_alloc_new Wc (.cells #[.nilIface, .int .i64 0] 67)); clear hat5; have hc5 := And.intro ((hb5.cell (p := ⟨g, 0, none⟩) (by show g < (Wc.alloc _).heap.size; simp; omega)).trans (((Below.refl Wc.heap.size Wc).alloc (Nat.le_refl _) _).cell (p := ⟨g, 0, none⟩) hgW |>.trans e0)) ((hb5.cell (p := ⟨g, 1, none⟩) (by show g < (Wc.alloc _).heap.size; simp; omega)).trans (((Below.refl Wc.heap.size Wc).alloc (Nat.le_refl _) _).cell (p := ⟨g, 1, none⟩) hgW |>.trans e1)); have hx0 : w5.cell? ⟨Wc.heap.size, 0, none⟩ = some .nilIface := (by rw [heap_cell hp5]; rfl); have hx1 : w5.cell? ⟨Wc.heap.size, 1, none⟩ = some (.int .i64 0) := (by rw [heap_cell hp5]; rfl); have hy0 := heap_free hp5 0; have hy1 := heap_free hp5 1; have HP5 := Lib.hid hp5; clear hp5 hb5))
      all_goals
        first
          | (have hP := (show _ = some (Obj.cells #[.nilIface, .int .i64 h5] 67) from heap_set (heap_set HP5.out 0 .nilIface) 1 (.int .i64 h5))
             have h7 := (heap_set_other (g := Wc.heap.size) (b := w.heap.size) (by omega) 1 (.int .i64 h5)).trans ((heap_set_other (g := Wc.heap.size) (b := w.heap.size) (by omega) 0 .nilIface).trans H75.out)
             have hB6 := (HB5.out.setCell (p := ⟨Wc.heap.size, 0, none⟩) (by show _ ≤ Wc.heap.size; omega) .nilIface).setCell (p := ⟨Wc.heap.size, 1, none⟩) (by show _ ≤ Wc.heap.size; omega) (.int .i64 h5)
             have hSp : w.heap.size < Wc.heap.size := hSW
             generalize (w5.setCell ⟨Wc.heap.size, 0, none⟩ .nilIface).setCell ⟨Wc.heap.size, 1, none⟩ (.int .i64 h5) = W6 at hP h7 hB6 ⊢
             clear hx0 hx1 hy0 hy1
             clear HP5
             generalize Wc.heap.size = p at hP hSp ⊢)
          | (have hP := heap_alloc_new w5 (.cells #[.nilIface, .int .i64 h5] 67)
             have h7 := heap_after H75.out (.cells #[.nilIface, .int .i64 h5] 67)
             have hB6 := HB5.out.alloc HB5.out.size (.cells #[.nilIface, .int .i64 h5] 67)
             have hSp : w.heap.size < w5.heap.size := (Array.getElem?_eq_some_iff.1 H75.out).1
             generalize w5.alloc (.cells #[.nilIface, .int .i64 h5] 67) = W6 at hP h7 hB6 ⊢
             generalize w5.heap.size = p at hP hSp ⊢)
      all_goals
        have hg6 := HGH.out _ hB6
        have x0 : W6.cell? ⟨p, 0, none⟩ = some .nilIface := by rw [heap_cell hP]; rfl
        have x1 : W6.cell? ⟨p, 1, none⟩ = some (.int .i64 h5) := by rw [heap_cell hP]; rfl
        have s0 : W6.cell? ⟨w.heap.size, 0, none⟩ = some .nilIface := by rw [heap_cell h7]; rfl
        have s1 : W6.cell? ⟨w.heap.size, 1, none⟩ = some (.int .i64 0) := by rw [heap_cell h7]; rfl
        have f0 := heap_free h7 0
        have f1 := heap_free h7 1
        have hhi6 : at5 ≤ 1000 := by have := hln; have := hl3; omega
        have n1 : ¬ w.heap.size = p := by omega
        have n2' : ¬ p = w.heap.size := by omega
        have n3 : ¬ g = w.heap.size := by omega
        have n4 : ¬ w.heap.size = g := by omega
        have HB6 := Lib.hid hB6
        have HHI := Lib.hid hhi5
        have H76 := Lib.hid h7
        have hw5 : IntKind.i64.wrap (at5 + 1) = at5 + 1 := by simp [IntKind.wrap, IntKind.bits, IntKind.signed]; omega
        clear hhi5 hB6 hP h7 HB5 H75 hgS hSg hgW HW H7
        try clear hc5
        go_wp2_with fail
        go_region_held3 (fun w' => w'.cell? ⟨g, 1, none⟩ = some (.iface 86 (.pointer (some ⟨g2, 0, none⟩))) ∧ w'.cell? ⟨p, 0, none⟩ = some .nilIface ∧ w'.cell? ⟨p, 1, none⟩ = some (.int .i64 h5))
          (go_keep)
          (first
            | (go_at_call 72; refine (size72_any _ _).mono ?_; rintro e w' ⟨rfl, rfl⟩))
        all_goals
          go_wp2_with fail
          have hE := (show _ = some (Obj.cells #[.nilIface, .int .i64 h5] 67) from heap_set (heap_set H76.out 0 .nilIface) 1 (.int .i64 h5))
          have hB7 := ((HB6.out.setCell (p := ⟨w.heap.size, 0, none⟩) (Nat.le_refl _) .nilIface).setCell (p := ⟨w.heap.size, 1, none⟩) (Nat.le_refl _) (.int .i64 h5)).drew
          have r0 : (((W6.setCell ⟨w.heap.size, 0, none⟩ .nilIface).setCell ⟨w.heap.size, 1, none⟩ (.int .i64 h5)).drew).cell? ⟨w.heap.size, 0, none⟩ = some .nilIface := by rw [heap_cell (w := ((W6.setCell ⟨w.heap.size, 0, none⟩ .nilIface).setCell ⟨w.heap.size, 1, none⟩ (.int .i64 h5)).drew) hE]; rfl
          have r1 : (((W6.setCell ⟨w.heap.size, 0, none⟩ .nilIface).setCell ⟨w.heap.size, 1, none⟩ (.int .i64 h5)).drew).cell? ⟨w.heap.size, 1, none⟩ = some (.int .i64 h5) := by rw [heap_cell (w := ((W6.setCell ⟨w.heap.size, 0, none⟩ .nilIface).setCell ⟨w.heap.size, 1, none⟩ (.int .i64 h5)).drew) hE]; rfl
          generalize ((W6.setCell ⟨w.heap.size, 0, none⟩ .nilIface).setCell ⟨w.heap.size, 1, none⟩ (.int .i64 h5)).drew = W7 at hB7 r0 r1 ⊢
          refine bodyPost_ret (v := .tuple #[.bool (ff (n2 :: l) (m - 1) f).isSome, .agg #[.nilIface, .int .i64 h5], .map none, .slice none 0 0, .int .i64 (at5 + 1)]) (by simp [results, Tryd.results21, go_sem, r0, r1, hw5]) rfl ?_
          exact deeper HFN.out HAT.out hlo5 HHI.out hB7
end Go.Proofs.YtadehfoamdkcmaaDoor
