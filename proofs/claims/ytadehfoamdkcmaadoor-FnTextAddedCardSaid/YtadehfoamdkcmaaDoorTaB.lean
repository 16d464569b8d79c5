/- strconv.FormatInt in base 16, of numbers of five digits. -/
import Derived.Test.YtadehfoamdkcmaaDoorTaA
import Derived.Test.YtadehfoamdkcmaaDoorRow
namespace Go.Proofs.YtadehfoamdkcmaaDoor
open Go.RowKit Rune

theorem pow_any (w : World) : Calls Tryd.prog 50 #[.int .i64 16] w fun e w' => e = .returned (.bool true) ∧ w = w' := by
  go_enter Tryd.func50, Tryd.ntmps50
  go_wp2
  go_ret
  exact ⟨rfl, rfl⟩
theorem tz_key : IntKind.u64.wrap (bits BinOp.and IntKind.u64 16 (IntKind.u64.wrap (-16)) * 285870213051353865) / 288230376151711744 = 15 := by kernel_rfl
theorem tz64_any (w : World) (hD : w.cell? ⟨5, 15, none⟩ = some (.int .u8 4)) : Calls Tryd.prog 53 #[.int .u64 16] w fun e w' => e = .returned (.int .i64 4) ∧ w = w' := by
  have key := tz_key
  go_enter Tryd.func53, Tryd.ntmps53
  go_wp2_with (simp only [key])
  go_ret
  exact ⟨rfl, rfl⟩
theorem tz_any (w : World) (hD : w.cell? ⟨5, 15, none⟩ = some (.int .u8 4)) : Calls Tryd.prog 51 #[.int .u64 16] w fun e w' => e = .returned (.int .i64 4) ∧ w = w' := by
  go_enter Tryd.func51, Tryd.ntmps51
  go_wp2_with (go_at_call 53; refine (tz64_any _ hD).mono ?_; rintro e w' ⟨rfl, rfl⟩)
  go_ret
  exact ⟨rfl, rfl⟩
/-- The array that is filled from its end. -/
def ArrAt (w : World) (g n k : Nat) : Prop := ∃ C : Array Value, w.heap[g]? = some (.cells C 122 (0, 0)) ∧ C.size = 65 ∧ C.toList.drop (65 - k) = Lib.byteCells (hexT n k)
theorem pow_low {n k : Nat} (h1 : 65536 ≤ n) (hk : k < 4) : 16 ≤ n / 16 ^ k := by
  rcases k with _ | _ | _ | _ | k
  · simp; omega
  · simp; omega
  · have e : (16 : Nat) ^ 2 = 256 := rfl
    rw [e]; omega
  · have e : (16 : Nat) ^ 3 = 4096 := rfl
    rw [e]; omega
  · omega
theorem dig_fin : ∀ d : Fin 16, ((#[48, 49, 50, 51, 52, 53, 54, 55, 56, 57, 97, 98, 99, 100, 101, 102, 103, 104, 105, 106, 107, 108, 109, 110, 111, 112, 113, 114, 115, 116, 117, 118, 119, 120, 121, 122] : Array UInt8)[d.val]'(by have := d.isLt; simp; omega)) = dig d.val := by decide +kernel
theorem dig_at (d : Nat) (h : d < 16) (h' : d < (ByteArray.mk #[48, 49, 50, 51, 52, 53, 54, 55, 56, 57, 97, 98, 99, 100, 101, 102, 103, 104, 105, 106, 107, 108, 109, 110, 111, 112, 113, 114, 115, 116, 117, 118, 119, 120, 121, 122]).size) : ((ByteArray.mk #[48, 49, 50, 51, 52, 53, 54, 55, 56, 57, 97, 98, 99, 100, 101, 102, 103, 104, 105, 106, 107, 108, 109, 110, 111, 112, 113, 114, 115, 116, 117, 118, 119, 120, 121, 122])[d]'h') = dig d := dig_fin ⟨d, h⟩
theorem digs_lt {d : Nat} (h : d < 16) : d < (ByteArray.mk #[48, 49, 50, 51, 52, 53, 54, 55, 56, 57, 97, 98, 99, 100, 101, 102, 103, 104, 105, 106, 107, 108, 109, 110, 111, 112, 113, 114, 115, 116, 117, 118, 119, 120, 121, 122]).size := Nat.lt_of_lt_of_le h (by decide)
theorem heap_set {w : World} {g : Nat} {C : Array Value} {T : TypeId} {fr : Nat × Nat} (h : w.heap[g]? = some (.cells C T fr)) (k : Nat) (v : Value) : (w.setCell ⟨g, k, none⟩ v).heap[g]? = some (.cells (C.setIfInBounds k v) T fr) := by
  unfold World.setCell
  rw [Array.getElem?_modify, if_pos rfl, h]
  simp
theorem arr_step {w : World} {g n k i : Nat} {C : Array Value} (hC : w.heap[g]? = some (.cells C 122 (0, 0))) (hz : C.size = 65) (ht : C.toList.drop (65 - k) = Lib.byteCells (hexT n k)) (hi : 65 - k = i + 1) :
    ArrAt (w.setCell ⟨g, i, none⟩ (.int .u8 ((dig (n / 16 ^ k % 16)).toNat : Int))) g n (k + 1) := by
  refine ⟨_, heap_set hC i _, by simp [hz], ?_⟩
  have e : 65 - (k + 1) = i := by omega
  have hl : i < C.toList.length := by simp [hz]; omega
  rw [e, Array.toList_setIfInBounds, List.drop_set, if_neg (by omega), Nat.sub_self]
  have e2 : C.toList.drop i = C.toList[i] :: C.toList.drop (i + 1) := List.drop_eq_getElem_cons hl
  rw [e2, ← hi, ht]
  rfl
set_option maxRecDepth 100000 in
set_option maxHeartbeats 4000000 in
theorem bits_any (n : Nat) (h1 : 65536 ≤ n) (h2 : n < 65800) (w : World) (hD : w.cell? ⟨5, 15, none⟩ = some (.int .u8 4)) :
    Calls Tryd.prog 44 #[.slice none 0 0, .int .u64 n, .int .i64 16, .bool false, .bool false] w fun e w' => (∃ v, e = .returned (.tuple #[v, .string ⟨(hexT n 5).toArray⟩])) ∧ Below w.heap.size w w' := by
  go_enter Tryd.func44, Tryd.ntmps44
  have hD2 : ∀ o, (w.alloc o).cell? ⟨5, 15, none⟩ = some (.int .u8 4) := fun o => (((Below.refl _ w).alloc (Nat.le_refl _) o).cell (p := ⟨5, 15, none⟩) (block_lt_of_cell hD)).trans hD
  go_wp2_with (first | (go_at_call 50; refine (pow_any _).mono ?_; rintro e w' ⟨rfl, rfl⟩) | (go_at_call 51; refine (tz_any _ (hD2 _)).mono ?_; rintro e w' ⟨rfl, rfl⟩))
  have hx := heap_alloc_new w (.cells Tryd.zeroCells122 122)
  have hb0 : Below w.heap.size w (w.alloc (.cells Tryd.zeroCells122 122)) := (Below.refl _ _).alloc (Nat.le_refl _) _
  have HX0 := Lib.hid (show ArrAt (w.alloc (.cells Tryd.zeroCells122 122)) w.heap.size n 0 from ⟨_, hx, by kernel_rfl, by simp [hexT, Lib.byteCells]⟩)
  have HB0 := Lib.hid hb0
  clear hx hb0 hD2
  generalize w.alloc (.cells Tryd.zeroCells122 122) = X0 at HX0 HB0 ⊢
  go_loopw [1, 13] (fun u i wr => ∃ k q : Nat, k ≤ 4 ∧ Hid (q = n / 16 ^ k) ∧ q < 65800 ∧ u = .int .u64 q ∧ i = .int .i64 ((65 - k : Nat) : Int) ∧ Hid (ArrAt wr w.heap.size n k) ∧ Hid (Below w.heap.size w wr)) (fun _ i _ => (intOf i).toNat)
  case atStart => exact ⟨0, n, by omega, Lib.hid (by simp), by omega, rfl, rfl, HX0, HB0⟩
  case round =>
    obtain ⟨k, q, hk, HQ, hq, rfl, rfl, HX, HB⟩ := hrel
    obtain ⟨i, hi⟩ : ∃ i, 65 - k = i + 1 := ⟨64 - k, by omega⟩
    obtain ⟨d, hd⟩ : ∃ d, q % 16 = d := ⟨_, rfl⟩
    have hd16 : d < 16 := by omega
    have hbits : bits .and .u64 (q : Int) 15 = (d : Int) := by
      have := bits_and_u64_nat q 15 (by omega) (by omega)
      rw [show q &&& 15 = q % 16 from Nat.and_two_pow_sub_one_eq_mod q 4, hd] at this
      exact this
    rw [hi]
    have hi1 : ((i + 1 : Nat) : Int) - 1 = (i : Int) := by omega
    have hi65 : i < 65 := by omega
    by_cases h4 : k < 4
    · have hq16 : (16 : Int) ≤ (q : Int) := by have := pow_low h1 h4; rw [← HQ.out] at this; omega
      obtain ⟨C, hC, hCz, hCt⟩ := HX.out
      have f0 : wr.frozen? ⟨w.heap.size, i, none⟩ = false := by unfold World.frozen?; rw [hC]; simp
      have c0 : wr.cell? ⟨w.heap.size, i, none⟩ = some (C[i]'(by omega)) := by unfold World.cell?; rw [hC]; simp
      have HC := Lib.hid hC
      have HCt := Lib.hid hCt
      have HD := Lib.hid hd
      clear hC hCt hd
      go_wp2_with fail
      go_roundw
      case rel => exact ⟨k + 1, q / 16, by omega, Lib.hid (by rw [HQ.out, Nat.div_div_eq_div_mul, Nat.pow_succ]), by omega, by go_num, by rw [show 65 - (k + 1) = i by omega], Lib.hid (by
        rw [dig_at d hd16]
        have e : d = n / 16 ^ k % 16 := by rw [← HQ.out, HD.out]
        rw [e]
        exact arr_step HC.out hCz HCt.out (by omega)), Lib.hid ((HB.out).setCell (Nat.le_refl _) _)⟩
      case measure => simp [intOf]
    · obtain rfl : k = 4 := by omega
      have hqn : q < 16 := by have := HQ.out; rw [this]; have e : (16 : Nat) ^ 4 = 65536 := rfl; rw [e]; omega
      have hqd : q = d := by omega
      subst hqd
      obtain rfl : i = 60 := by omega
      obtain ⟨C, hC, hCz, hCt⟩ := HX.out
      have f0 : wr.frozen? ⟨w.heap.size, 60, none⟩ = false := by unfold World.frozen?; rw [hC]; simp
      have c0 : wr.cell? ⟨w.heap.size, 60, none⟩ = some (C[60]'(by omega)) := by unfold World.cell?; rw [hC]; simp
      have HC := Lib.hid hC
      have HCt := Lib.hid hCt
      have hq16 : ¬ (16 : Int) ≤ (q : Int) := by omega
      have hA := arr_step HC.out hCz HCt.out (i := 60) (by omega)
      have e : n / 16 ^ 4 % 16 = q := by rw [← HQ.out]; omega
      rw [e] at hA
      clear e
      have hconv : (convert 93 9 (.slice (some ⟨w.heap.size, 60, none⟩) 5 5)).run Tryd.prog (wr.setCell ⟨w.heap.size, 60, none⟩ (.int .u8 ((dig q).toNat : Int))) = .ok (.string ⟨(hexT n 5).toArray⟩) (wr.setCell ⟨w.heap.size, 60, none⟩ (.int .u8 ((dig q).toNat : Int))) := by
        have hl := hexT_len n 5
        have := run_convert_bytes_back (P := Tryd.prog) (wr.setCell ⟨w.heap.size, 60, none⟩ (.int .u8 ((dig q).toNat : Int))) 93 9 5 ⟨w.heap.size, 60, none⟩ 5 (hexT n 5) Tryd.underlying93 Tryd.underlying5 Tryd.underlying9 (fun j hj => by
          obtain ⟨C', hC', hz', ht'⟩ := hA
          rw [add_plain']
          unfold World.cell?
          rw [hC']
          have h1 := congrArg (fun l => l[j]?) ht'
          simp only [List.getElem?_drop] at h1
          have h2 : (Lib.byteCells (hexT n (4 + 1)))[j]? = some (.int .u8 (((hexT n 5)[j]'hj).toNat : Int)) := by
            simp only [Lib.byteCells, List.getElem?_map]
            rw [List.getElem?_eq_getElem hj]
            rfl
          rw [h2] at h1
          simpa using h1)
        rw [hl] at this
        exact this
      have hdig := dig_at q hqn (digs_lt hqn)
      have HBE := Lib.hid (show Below w.heap.size w (wr.setCell ⟨w.heap.size, 60, none⟩ (.int .u8 ((dig q).toNat : Int))) from HB.out.setCell (Nat.le_refl _) _)
      clear hC hCt hbits hd hA
      go_wp2_with fail
      go_ret2
      exact ⟨⟨_, rfl⟩, HBE.out⟩

theorem fmt_in (n : Nat) (h1 : 65536 ≤ n) (h2 : n < 65800) (w : World) (hD : w.cell? ⟨5, 15, none⟩ = some (.int .u8 4)) :
    Calls Tryd.prog 34 #[.int .i64 n, .int .i64 16] w fun e w' => e = .returned (.string ⟨(hexT n 5).toArray⟩) ∧ Below w.heap.size w w' := by
  have q0 : ¬ (n : Int) < 0 := by omega
  have q1 : (n : Int) < 65800 := by omega
  go_enter Tryd.func34, Tryd.ntmps34
  go_wp2_with (go_at_call 44; refine (bits_any n h1 h2 _ hD).mono ?_; rintro e w' ⟨⟨v, rfl⟩, hb⟩; refine Hid.out ?_)
  refine Lib.hid ?_
  have HB := Lib.hid hb
  clear hb
  go_wp2_with fail
  go_ret
  exact ⟨rfl, HB.out⟩
theorem fmt_any (n : Nat) (h1 : 65536 ≤ n) (h2 : n < 65800) (w : World) (hD : w.cell? ⟨5, 15, none⟩ = some (.int .u8 4)) :
    Calls Tryd.prog 27 #[.int .i64 n, .int .i64 16] w fun e w' => e = .returned (.string ⟨(hexT n 5).toArray⟩) ∧ Below w.heap.size w w' := by
  go_enter Tryd.func27, Tryd.ntmps27
  go_wp2_with (go_at_call 34; refine (fmt_in n h1 h2 _ hD).mono ?_; rintro e w' ⟨rfl, hb⟩; refine Hid.out ?_)
  refine Lib.hid ?_
  have HB := Lib.hid hb
  clear hb
  go_wp2_with fail
  go_ret
  exact ⟨rfl, HB.out⟩
end Go.Proofs.YtadehfoamdkcmaaDoor
