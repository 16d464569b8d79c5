/- laws.same7, laws.finite7; the walk of laws.FnNumsTurned. -/
import Derived.Test.YtenibebomafdmaaTuD
namespace Go.Proofs.Ytenibebomafdmaa
open Go.RowKit

theorem ord_self {x : Nat} (h : finB x = true) : FloatKind.f64.format.order x x = some Ordering.eq := by
  unfold finB nanB ordF at h
  simp at h
  exact h.1

set_option maxRecDepth 100000 in
set_option maxHeartbeats 1000000 in
theorem same7_any (v u : Value) (xs : List Nat) (w : World) (hv : RowV w w.heap.size v (fls xs)) (hu : RowV w w.heap.size u (fls xs)) (hx : xs.length ≤ 1000) (hf : ∀ x ∈ xs, finB x = true) :
    Calls Try.prog 12 #[v, u] w fun e w' => e = .returned (.bool true) ∧ Below w.heap.size w w' := by
  obtain ⟨A, c, rfl⟩ := hv.form'
  obtain ⟨A2, c2, rfl⟩ := hu.form'
  rw [fls_len] at hv hu ⊢
  have HV := Lib.hid hv
  have HU := Lib.hid hu
  have HF := Lib.hid hf
  clear hv hu hf
  go_enter Try.func12, Try.ntmps12
  go_wp2
  go_loopw [5] (fun i wr => ∃ k : Nat, k ≤ xs.length ∧ i = .int .i64 k ∧ Below w.heap.size w wr) (fun i _ => xs.length - (intOf i).toNat)
  case atStart => exact ⟨0, Nat.zero_le _, rfl, Below.refl _ _⟩
  case round =>
    obtain ⟨k, hk, rfl, hb⟩ := hrel
    by_cases hlt : k < xs.length
    · have hlt' : (k : Int) < (xs.length : Int) := by omega
      obtain ⟨b1, o1, rfl, _, h1⟩ := (HV.out.below hb (Nat.le_refl _)).get (fls_at hlt)
      obtain ⟨b2, o2, rfl, _, h2⟩ := (HU.out.below hb (Nat.le_refl _)).get (fls_at hlt)
      have he := ord_self (HF.out _ (List.getElem_mem hlt))
      have hk0 : (0 : Int) ≤ (k : Int) := by omega
      go_wp2
      go_quiet (fail)
      go_wp2
      go_roundw
      case rel => exact ⟨k + 1, by omega, by go_num, ⟨hb.os, hb.tape, hb.output, hb.size, hb.block⟩⟩
      case measure => simp [intOf]; omega
    · obtain rfl : k = xs.length := by omega
      go_wp2
      go_ret
      exact ⟨rfl, hb⟩

def FinL (xs : List Nat) : Prop := xs.length ≤ 200 ∧ ∀ x ∈ xs, finB x = true
def FinP (X : Nat → List Nat) (w : World) (e : Ending) (w' : World) : Prop := ∃ b, e = .returned (.bool b) ∧ (b = true → ∀ m, m < 2 → FinL (X m)) ∧ w = w'
theorem FinP.no (X : Nat → List Nat) (w : World) : FinP X w (.returned (.bool false)) w := ⟨false, rfl, (fun h => by cases h), rfl⟩

set_option maxRecDepth 100000 in
set_option maxHeartbeats 1000000 in
theorem finite7_any (g : Nat) (A : Nat → Option Addr) (c : Nat → Nat) (X : Nat → List Nat) (w : World) (hc : ∀ m, m < 2 → w.cell? ⟨g, m, none⟩ = some (.slice (A m) (X m).length (c m))) (hr : ∀ m, m < 2 → RowV w w.heap.size (.slice (A m) (X m).length (c m)) (fls (X m)))
    (hl : ∀ m, m < 2 → (X m).length ≤ maxLen) (hb : ∀ m, m < 2 → ∀ x ∈ X m, x < 18446744073709551616) :
    Calls Try.prog 9 #[.slice (some ⟨g, 0, none⟩) 2 2] w (FinP X w) := by
  have HC := Lib.hid hc
  have HR := Lib.hid hr
  have HL := Lib.hid hl
  have HB := Lib.hid hb
  clear hc hr hl hb
  go_enter Try.func9, Try.ntmps9
  go_wp2
  go_loop [3] (fun i => ∃ j : Nat, j ≤ 2 ∧ i = .int .i64 j ∧ Hid (∀ m, m < j → FinL (X m))) (fun i => 2 - (intOf i).toNat)
  case atStart => exact ⟨0, by omega, rfl, Lib.hid (fun m h => by omega)⟩
  case round =>
    obtain ⟨j, hj, rfl, HG⟩ := hrel
    by_cases hlt : j < 2
    · have hcj := HC.out j hlt
      have hlj := HL.out j hlt
      unfold maxLen at hlj
      have hlt' : (j : Int) < 2 := by omega
      go_wp2
      go_loop [4] (fun i => ∃ k : Nat, k ≤ (X j).length ∧ i = .int .i64 k ∧ Hid (∀ m (h : m < (X j).length), m < k → finB (X j)[m] = true)) (fun i => (X j).length - (intOf i).toNat)
      case atStart => exact ⟨0, by omega, rfl, Lib.hid (fun m _ h => by omega)⟩
      case round =>
        obtain ⟨k, hk, rfl, HK⟩ := hrel
        by_cases hlk : k < (X j).length
        · have hlk' : (k : Int) < ((X j).length : Int) := by omega
          obtain ⟨b, off, hA, _, hcell⟩ := (HR.out j hlt).get (fls_at hlk)
          have hw := HB.out j hlt _ (List.getElem_mem hlk)
          have hcj2 := hcj
          rw [hA] at hcj2
          clear hcj
          cases hfb : finB (X j)[k] with
          | true =>
            go_wp2_with (go_at_call 29; refine (finite1_any _ hw _).mono ?_; rintro e w' ⟨rfl, rfl⟩)
            go_round
            case rel =>
              refine ⟨k + 1, by omega, by go_num, Lib.hid fun m h hm => ?_⟩
              rcases Nat.lt_or_ge m k with h' | h'
              · exact HK.out m h h'
              · obtain rfl : m = k := by omega
                exact hfb
            case measure => simp [intOf]; omega
          | false =>
            go_wp2_with (go_at_call 29; refine (finite1_any _ hw _).mono ?_; rintro e w' ⟨rfl, rfl⟩)
            go_ret
            exact FinP.no _ _
        · obtain rfl : k = (X j).length := by omega
          by_cases h200 : (X j).length ≤ 200
          · have hk2 : ((X j).length : Int) ≤ 200 := by omega
            go_wp2
            go_round
            case rel =>
              refine ⟨j + 1, by omega, by go_num, Lib.hid fun m hm => ?_⟩
              rcases Nat.lt_or_ge m j with h' | h'
              · exact HG.out m h'
              · obtain rfl : m = j := by omega
                refine ⟨h200, fun x hx => ?_⟩
                obtain ⟨q, hq, rfl⟩ := List.getElem_of_mem hx
                exact HK.out q hq hq
            case measure => simp [intOf]; omega
          · have hk2 : (200 : Int) < ((X j).length : Int) := by omega
            go_wp2
            go_ret
            exact FinP.no _ _
    · obtain rfl : j = 2 := by omega
      go_wp2
      go_ret
      exact ⟨true, rfl, fun _ => HG.out, rfl⟩
end Go.Proofs.Ytenibebomafdmaa
