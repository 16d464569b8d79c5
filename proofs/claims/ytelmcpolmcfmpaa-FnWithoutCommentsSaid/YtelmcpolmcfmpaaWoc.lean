/- The walk of laws.FnWithoutComments: it returns true and changes nothing that was there. -/
import Derived.Test.YtelmcpolmcfmpaaStrip
namespace Go.Proofs.Ytelmcpolmcfmpaa
open Go.RowKit

theorem strip_good {es : List El} (h : GoodEls es) : GoodEls (stripL es) := by
  refine ⟨by have := stripL_len es; have := h.1; omega, fun e he => ?_⟩
  simp only [stripL, List.mem_map, List.mem_filter] at he
  obtain ⟨x, ⟨hx, hk⟩, rfl⟩ := he
  have h1 := h.2 x hx
  simp [elemB, numsB] at h1
  simp at hk
  simp [elemB, numsB, shortB, kindB, bare, h1, hk]

set_option maxRecDepth 100000 in
set_option maxHeartbeats 2000000 in
theorem wocLaw_any (v : Value) (es : List El) (w : World) (h1 : ElsV w w.heap.size v es) (hl : es.length ≤ 9223372036854775807) (hc : ∀ e ∈ es, e.com.length ≤ 9223372036854775807) :
    Calls Try.prog 3 #[v] w (BoolB true w) := by
  have H1 := Lib.hid h1
  have HC := Lib.hid hc
  obtain ⟨A, c, rfl⟩ := h1.form
  clear h1 hc
  go_enter Try.func3, Try.ntmps3
  go_wp2_with fail
  refine (fits7_any _ es _ H1.out hl HC.out).mono ?_
  rintro e w1 ⟨b1, rfl, hb1⟩
  cases b1
  · go_wp2
    go_ret; exact ⟨rfl, hb1⟩
  · go_wp2_with fail
    refine (lfodder_any _ es _ ((H1.out.below hb1 (Nat.le_refl _)).mono_ hb1.size) hl HC.out).mono ?_
    rintro e w2 ⟨b2, rfl, hgood, hb2⟩
    have hb2' : Below w.heap.size w w2 := hb1.trans (hb2.mono hb1.size)
    clear hb1 hb2
    cases b2
    · go_wp2
      go_ret; exact ⟨rfl, hb2'⟩
    · have HG := Lib.hid (hgood rfl)
      clear hgood
      go_wp2_with fail
      refine (without_any _ es _ ((H1.out.below hb2' (Nat.le_refl _)).mono_ hb2'.size) HG.out).mono ?_
      rintro e w3 ⟨v3, rfl, ho3, hb3⟩
      have hb3' : Below w.heap.size w w3 := hb2'.trans (hb3.mono hb2'.size)
      clear hb3 hb2'
      obtain ⟨A3, c3, rfl⟩ := ho3.form
      have HO3 := Lib.hid ho3
      clear ho3
      go_wp2_with fail
      refine (without_any _ (stripL es) _ HO3.out.readE (strip_good HG.out)).mono ?_
      rintro e w4 ⟨v4, rfl, ho4, hb4⟩
      rw [stripL_idem] at ho4
      have HO3' := Lib.hid ((HO3.out.below hb4).readE)
      have HO4 := Lib.hid ho4.readE
      have hb4' : Below w.heap.size w w4 := hb3'.trans (hb4.mono hb3'.size)
      obtain ⟨A4, c4, rfl⟩ := ho4.form
      clear ho4 hb4 hb3' HO3
      have hml : (stripL es).length ≤ 100 := by have := stripL_len es; have := HG.out.1; omega
      have hcm : Hid (∀ e ∈ stripL es, e.com = []) := Lib.hid fun e he => (stripL_com es e he).1
      have hc0 : Hid (∀ e ∈ stripL es, e.com.length ≤ 9223372036854775807) := Lib.hid fun e he => by rw [hcm.out e he]; simp
      generalize stripL es = ss at *
      go_wp2
      go_loop [4, 7] (fun o i => ∃ k : Nat, k ≤ ss.length ∧ i = .int .i64 k ∧ o = .bool true) (fun _ i => ss.length - (intOf i).toNat)
      case atStart => exact ⟨0, Nat.zero_le _, rfl, rfl⟩
      case round =>
        obtain ⟨k, hk, rfl, rfl⟩ := hrel
        by_cases hlt : k < ss.length
        · obtain ⟨b, off, Ac, cca, rfl, hbB, hcv, d0, d1, d2, d3⟩ := HO3'.out.at_ hlt
          rw [hcm.out _ (List.getElem_mem hlt)] at d3
          clear hcv d0 d1 d2
          have hlt' : (k : Int) < (ss.length : Int) := by omega
          go_wp2
          go_round
          case rel => exact ⟨k + 1, by omega, by go_num, rfl⟩
          case measure => simp [intOf]; omega
        · go_wp2_with (go_at_call 10; refine (sameFod_any _ _ ss _ HO3'.out HO4.out (by omega) hc0.out).mono ?_; rintro e w5 ⟨rfl, hb5⟩)
          go_ret
          exact ⟨rfl, hb4'.trans (hb5.mono hb4'.size)⟩
end Go.Proofs.Ytelmcpolmcfmpaa
