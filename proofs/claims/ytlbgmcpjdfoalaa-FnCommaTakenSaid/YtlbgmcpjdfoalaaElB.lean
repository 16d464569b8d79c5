/- The contracts of laws.follows, dull, sameElement, sameFodder (of two readings of one list), laws.fodder. -/
import Derived.Test.YtlbgmcpjdfoalaaElA
namespace Go.Proofs.Ytlbgmcpjdfoalaa
open Go.RowKit

def follB (a b : El) : Bool := if b.kind == 0 then a.kind == 1 else if b.kind == 2 then a.kind != 1 else true

set_option maxHeartbeats 400000 in
theorem follows_any (a b : El) (cv cv' : Value) (w : World) :
    Calls Try.prog 28 #[eVal a cv, eVal b cv'] w (BoolB (follB a b) w) := by
  unfold eVal
  go_enter Try.func28, Try.ntmps28
  go_wp2
  all_goals
    go_ret
    refine ⟨retB ?_, ((Below.refl _ _).alloc (Nat.le_refl _) _).alloc (by simp) _⟩
    simp_all [follB]

set_option maxHeartbeats 400000 in
theorem dull_any (v v' : Value) (es es' : List El) (w : World) (B : Nat) (h1 : ElsV w B v es) (h2 : ElsV w B v' es') (l1 : es.length ≤ 9223372036854775807) (l2 : es'.length ≤ 9223372036854775807) :
    Calls Try.prog 7 #[v, v'] w (AnyBool w) := by
  obtain ⟨A, c, rfl⟩ := h1.form
  obtain ⟨A', c', rfl⟩ := h2.form
  by_cases e1 : 0 < es.length
  · by_cases e2 : 0 < es'.length
    · obtain ⟨b, off, Ac, cc, rfl, hbB, hcv, c0, c1, c2, c3⟩ := h1.at_ (k := es.length - 1) (by omega)
      obtain ⟨b', off', Ac', cc', rfl, hbB', hcv', c0', c1', c2', c3'⟩ := h2.at_ e2
      clear h1 h2 hcv hcv' c1 c2 c3 c1' c2' c3'
      simp only [Nat.zero_mul, Nat.add_zero] at c0'
      go_enter Try.func7, Try.ntmps7
      go_wp2
      all_goals (go_ret; exact ⟨_, rfl, rfl⟩)
    · have z : es'.length = 0 := by omega
      rw [z]
      clear h1 h2
      go_enter Try.func7, Try.ntmps7
      go_wp2
      all_goals (go_ret; exact ⟨_, rfl, rfl⟩)
  · have z : es.length = 0 := by omega
    rw [z]
    clear h1 h2
    go_enter Try.func7, Try.ntmps7
    go_wp2
    all_goals (go_ret; exact ⟨_, rfl, rfl⟩)

set_option maxHeartbeats 1000000 in
theorem sameElem_any (e : El) (cv cv' : Value) (w : World) (B : Nat) (hB : B ≤ w.heap.size) (h1 : RowV w B cv (strs e.com)) (h2 : RowV w B cv' (strs e.com)) (hl : e.com.length ≤ 9223372036854775807) :
    Calls Try.prog 23 #[eVal e cv, eVal e cv'] w (BoolB true w) := by
  obtain ⟨A, c, rfl⟩ := h1.form
  obtain ⟨A', c', rfl⟩ := h2.form
  have H1 := Lib.hid h1
  have H2 := Lib.hid h2
  clear h1 h2
  unfold eVal
  go_enter Try.func23, Try.ntmps23
  go_wp2
  go_loopw [5] (fun i wr => ∃ k : Nat, k ≤ e.com.length ∧ i = .int .i64 k ∧ Below w.heap.size w wr ∧ wr.cell? ⟨w.heap.size, 3, none⟩ = some (.slice A e.com.length c) ∧ wr.cell? ⟨w.heap.size + 1, 3, none⟩ = some (.slice A' e.com.length c')) (fun i _ => e.com.length - (intOf i).toNat)
  case atStart =>
    refine ⟨0, Nat.zero_le _, rfl, ((Below.refl _ _).alloc (Nat.le_refl _) _).alloc (by simp) _, ?_, ?_⟩
    · rw [World.cell?_alloc_past _ _ _ (by simp), World.cell?_alloc_at _ _ _ _ rfl]; rfl
    · rw [World.cell?_alloc_at _ _ _ _ (by simp)]; rfl
  case round =>
    obtain ⟨k, hk, rfl, hb, hc1, hc2⟩ := hrel
    by_cases hlt : k < e.com.length
    · obtain ⟨b, off, rfl, hbB, hcell⟩ := (H1.out.below hb hB).at_ hlt
      obtain ⟨b', off', rfl, hbB', hcell'⟩ := (H2.out.below hb hB).at_ hlt
      have hlt' : (k : Int) < (e.com.length : Int) := by omega
      go_wp2
      go_quiet (fail)
      go_wp2
      go_roundw
      case rel => exact ⟨k + 1, by omega, by go_num, below_drewN hb _, hc1, hc2⟩
      case measure => simp [intOf]; omega
    · go_wp2
      go_ret
      exact ⟨rfl, hb⟩

set_option maxHeartbeats 1000000 in
theorem sameFod_any (v v' : Value) (es : List El) (w : World) (h1 : ElsV w w.heap.size v es) (h2 : ElsV w w.heap.size v' es) (hl : es.length ≤ 9223372036854775807) (hc : ∀ e ∈ es, e.com.length ≤ 9223372036854775807) :
    Calls Try.prog 10 #[v, v'] w (BoolB true w) := by
  obtain ⟨A, c, rfl⟩ := h1.form
  obtain ⟨A', c', rfl⟩ := h2.form
  have H1 := Lib.hid h1
  have H2 := Lib.hid h2
  clear h1 h2
  go_enter Try.func10, Try.ntmps10
  go_wp2
  go_loopw [5] (fun i wr => ∃ k : Nat, k ≤ es.length ∧ i = .int .i64 k ∧ Below w.heap.size w wr) (fun i _ => es.length - (intOf i).toNat)
  case atStart => exact ⟨0, Nat.zero_le _, rfl, Below.refl _ _⟩
  case round =>
    obtain ⟨k, hk, rfl, hb⟩ := hrel
    by_cases hlt : k < es.length
    · obtain ⟨b, off, Ac, cc, rfl, hbB, hcv, c0, c1, c2, c3⟩ := (H1.out.below hb (Nat.le_refl _)).at_ hlt
      obtain ⟨b', off', Ac', cc', rfl, hbB', hcv', c0', c1', c2', c3'⟩ := (H2.out.below hb (Nat.le_refl _)).at_ hlt
      have hlt' : (k : Int) < (es.length : Int) := by omega
      have hlc := hc _ (List.getElem_mem hlt)
      have hsz := hb.size
      go_wp2
      go_region_with (go_at_call 23; refine (sameElem_any es[k] (.slice Ac es[k].com.length cc) (.slice Ac' es[k].com.length cc') _ w.heap.size (by simp; omega) (hcv.below (Below.refl wr.heap.size wr).drew hsz) (hcv'.below (Below.refl wr.heap.size wr).drew hsz) hlc).mono ?_; rintro e w' ⟨rfl, hb'⟩)
      all_goals
        go_wp2
        go_roundw
        case rel => exact ⟨k + 1, by omega, by go_num, hb.drew.trans (hb'.mono hsz)⟩
        case measure => simp [intOf]; omega
    · go_wp2
      go_ret
      exact ⟨rfl, hb⟩
end Go.Proofs.Ytlbgmcpjdfoalaa
