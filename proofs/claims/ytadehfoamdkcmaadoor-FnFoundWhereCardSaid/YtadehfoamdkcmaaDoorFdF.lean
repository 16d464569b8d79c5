/- The contract of chain (package jsonnet). -/
import Derived.Test.YtadehfoamdkcmaaDoorFdE
namespace Go.Proofs.YtadehfoamdkcmaaDoor
open Go.RowKit

def objsOf (es : List (List ByteArray)) : List (List ByteArray) := if es = [] then [[]] else es.reverse
theorem objsOf_step {es : List (List ByteArray)} {k : Nat} (hk : k < es.length) (h0 : 0 < k) : objsOf (es.take (k + 1)) = es[k] :: objsOf (es.take k) := by
  have h1 : es.take (k + 1) ≠ [] := fun h => by have := congrArg List.length h; rw [List.length_take] at this; simp only [List.length_nil] at this; omega
  have h2 : es.take k ≠ [] := fun h => by have := congrArg List.length h; rw [List.length_take] at this; simp only [List.length_nil] at this; omega
  rw [objsOf, objsOf, if_neg h1, if_neg h2, take_snoc _ _ hk]
  simp
theorem objsOf_one {es : List (List ByteArray)} (hk : 0 < es.length) : objsOf (es.take (0 + 1)) = [es[0]] := by
  unfold objsOf
  rw [take_snoc _ _ hk, if_neg (by simp)]
  simp
theorem objsOf_len (es : List (List ByteArray)) : (objsOf es).length ≤ es.length + 1 := by
  unfold objsOf
  split <;> simp

set_option maxRecDepth 100000 in
set_option maxHeartbeats 4000000 in
theorem chain_any (v : Value) (es : List (List ByteArray)) (w : World) (hr : CsV w w.heap.size v es) (hl : es.length ≤ 12) (hc : ∀ ns ∈ es, ns.length ≤ 12) (hz : ∀ ns ∈ es, ∀ s ∈ ns, s.size ≤ maxLen) :
    Calls Tryd.prog 20 #[v] w (ObjP (objsOf es) w) := by
  have H := Lib.hid hr
  have HC := Lib.hid hc
  have HZ := Lib.hid hz
  obtain ⟨A, c, rfl⟩ := hr.form
  clear hr hc hz
  go_enter Tryd.func20, Tryd.ntmps20
  go_wp2_with fail
  refine (simple_any ⟨#[]⟩ (.slice none 0 0) (.slice none 0 0) [] [] w ⟨none, 0, rfl, fun h => by simp [strs] at h⟩ ⟨none, 0, rfl, fun h => by simp [ints] at h⟩ rfl (by simp) (by simp)).mono ?_
  rintro e w1 ⟨g, u, rfl, hu, hs, hb⟩
  have HU := Lib.hid hu
  have HS := Lib.hid hs
  have HB := Lib.hid hb
  clear hu hs hb
  go_wp2_with fail
  go_loopw [3, 11] (fun p i wr => ∃ (k g : Nat) (u : Value), k ≤ es.length ∧ i = .int .i64 k ∧ p = .pointer (some ⟨g, 0, none⟩) ∧ Hid (wr.cell? ⟨g, 2, none⟩ = some u) ∧ Hid (ObjL wr (objsOf (es.take k)) u) ∧ Below w.heap.size w wr) (fun _ i _ => es.length - (intOf i).toNat)
  case atStart => exact ⟨0, g, u, Nat.zero_le _, rfl, rfl, HU, HS, HB.out⟩
  case round =>
    obtain ⟨k, g, u, hk, rfl, rfl, HU, HS, hb⟩ := hrel
    by_cases hlt : k < es.length
    · have hlt' : (k : Int) < (es.length : Int) := by omega
      obtain ⟨b, off, An, cn, Ah, ch, r, hs, rfl, hbB, hcn, hhl, hch, c0, c1, c2, c3⟩ := (H.out.below hb (Nat.le_refl _)).at_ hlt
      have hx := fun W (hW : Below wr.heap.size wr W) => simple_any r _ _ es[k] hs W ((hcn.more hb.size).now hW) ((hch.more hb.size).now hW) hhl (HC.out _ (List.getElem_mem hlt)) (HZ.out _ (List.getElem_mem hlt))
      have HX := Lib.hid hx
      have HBA := Lib.hid ((Below.refl wr.heap.size wr).alloc (Nat.le_refl _) (.cells #[.string r, .slice An es[k].length cn, .slice Ah es[k].length ch, .bool false] 49))
      have HB := Lib.hid hb
      clear hx hb hcn hch hhl
      rcases Nat.eq_zero_or_pos k with rfl | hpos
      · simp only [Nat.zero_mul, Nat.add_zero] at c0 c1 c2 c3
        go_wp2_with (go_at_call 23; refine (HX.out _ HBA.out).mono ?_; rintro e w2 ⟨g2, u2, rfl, hu2, hs2, hb2⟩)
        have HU2 := Lib.hid hu2
        have HS2 := Lib.hid (show ObjL w2 (objsOf (es.take (0 + 1))) u2 by rw [objsOf_one hlt]; exact hs2)
        have HB2 := Lib.hid (HB.out.trans (((HBA.out.trans (hb2.mono (by simp)))).mono HB.out.size))
        clear hu2 hs2 hb2
        go_wp2_with fail
        go_roundw
        case rel => exact ⟨0 + 1, g2, u2, by omega, by go_num, rfl, HU2, HS2, HB2.out⟩
        case measure => simp [intOf]; omega
      · have hk0 : ((k : Int) == 0) = false := by simp; omega
        have hk1 : ¬ (k : Int) = 0 := by omega
        have hol := objsOf_len (es.take k)
        have HOL := Lib.hid (show (objsOf (es.take k)).length ≤ 100 by rw [List.length_take] at hol; omega)
        clear hol
        go_wp2_with (go_at_call 23; refine (HX.out _ HBA.out).mono ?_; rintro e w2 ⟨g2, u2, rfl, hu2, hs2, hb2⟩; refine Hid.out ?_)
        refine Lib.hid ?_
        have HB2 := Lib.hid (HBA.out.trans (hb2.mono (by simp)))
        have HC := Lib.hid (mkext_any g g2 u u2 es[k] (objsOf (es.take k)) w2 HOL.out ((HB2.out.cell (p := ⟨g, 2, none⟩) (lt_of_cell HU.out)).trans HU.out) hu2 (HS.out.below HB2.out) hs2)
        clear hu2 hs2 hb2
        go_wp2_with fail
        refine HC.out.mono ?_
        rintro e w3 ⟨g3, u3, rfl, hu3, hs3, hb3⟩
        have HU3 := Lib.hid hu3
        have HS3 := Lib.hid (show ObjL w3 (objsOf (es.take (k + 1))) u3 by rw [objsOf_step hlt hpos]; exact hs3)
        have HB3 := Lib.hid (HB.out.trans ((bnext HB2.out hb3).mono HB.out.size))
        clear hu3 hs3 hb3
        go_wp2_with fail
        go_roundw
        case rel => exact ⟨k + 1, g3, u3, by omega, by go_num, rfl, HU3, HS3, HB3.out⟩
        case measure => simp [intOf]; omega
    · obtain rfl : k = es.length := by omega
      have hs := HS.out
      rw [List.take_length] at hs
      have HS2 := Lib.hid hs
      clear hs
      go_wp2_with fail
      go_ret
      exact ⟨g, u, rfl, HU.out, HS2.out, hb⟩
end Go.Proofs.YtadehfoamdkcmaaDoor
