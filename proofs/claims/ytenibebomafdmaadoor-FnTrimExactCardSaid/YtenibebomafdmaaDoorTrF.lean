/- spec.encoded, spec.OfUnits. -/
import Derived.Test.YtenibebomafdmaaDoorTrE
import Derived.Laws.Bits128
import Derived.Lib.AppendStr
namespace Go.Proofs.YtenibebomafdmaaDoor
open Go.RowKit Rune

theorem and63 (n : Int) : bits .and .i64 n 63 = n % 64 := by
  have h127 : (BitVec.ofInt 64 63).toNat = 2 ^ 6 - 1 := by decide
  have key : (BitVec.ofInt 64 n &&& BitVec.ofInt 64 63).toNat = (n % ((2 ^ 64 : Nat) : Int)).toNat % 2 ^ 6 := by
    rw [BitVec.toNat_and, BitVec.toNat_ofInt, h127, Nat.and_two_pow_sub_one_eq_mod]
  show IntKind.i64.wrap ((BitVec.ofInt 64 n &&& BitVec.ofInt 64 63).toNat : Nat) = n % 64
  rw [key, IntKind.wrap_i64]
  omega

def byt (l : List UInt8) : List Value := l.map fun b => .int .u8 (b.toNat : Nat)
theorem conv_new (w : World) (l : List UInt8) : (Go.convert 36 9 (.slice (some ⟨w.heap.size, 0, none⟩) l.length l.length)).run Tryd.prog (w.alloc (.cells (byt l).toArray 5)) = .ok (.string ⟨l.toArray⟩) (w.alloc (.cells (byt l).toArray 5)) := by
  refine run_convert_bytes_back (P := Tryd.prog) _ 36 9 5 ⟨w.heap.size, 0, none⟩ l.length l Tryd.underlying36 Tryd.underlying5 Tryd.underlying9 (fun j hj => ?_)
  exact World.news_of_block (heap_alloc_new w _) j _ (by simp [byt, hj])

theorem ofR_encB {n : Nat} {l : List UInt8} (h : encB n = l) : ofR [n] = ⟨l.toArray⟩ := by
  unfold ofR
  simp [enc, h]

/-- What the conversion gives, its bytes spelled as the walk spells them. -/
theorem conv_at (w : World) (n : Nat) (l : List UInt8) (cs : List Value) (k : Nat) (h : encB n = l) (hc : cs = byt l) (hk : k = l.length) : (Go.convert 36 9 (.slice (some ⟨w.heap.size, 0, none⟩) k k)).run Tryd.prog (w.alloc (.cells cs.toArray 5)) = .ok (.string (ofR [n])) (w.alloc (.cells cs.toArray 5)) := by
  subst hc hk
  rw [ofR_encB h]
  exact conv_new w l

def EncP (n : Nat) (w : World) (e : Ending) (w' : World) : Prop := e = .returned (.string (ofR [n])) ∧ Below w.heap.size w w'
theorem u8N {a : Nat} {b : Int} (h : a < 256) (hb : b = (a : Int)) : Value.int .u8 b = Value.int .u8 ((UInt8.ofNat a).toNat : Nat) := by
  rw [ofN h, hb]
set_option maxRecDepth 100000 in
set_option maxHeartbeats 1000000 in
theorem encoded_any (n : Nat) (hv : okR n) (w : World) : Calls Tryd.prog 13 #[.int .i64 n] w (EncP n w) := by
  have hn0 : (0 : Int) ≤ (n : Int) := by omega
  have hm : (n : Int) ≤ 1114111 := by unfold okR at hv; omega
  obtain ⟨m0, hm0⟩ : ∃ m : Nat, n % 64 = m := ⟨_, rfl⟩
  obtain ⟨m1, hm1⟩ : ∃ m : Nat, n / 64 % 64 = m := ⟨_, rfl⟩
  obtain ⟨m2, hm2⟩ : ∃ m : Nat, n / 4096 % 64 = m := ⟨_, rfl⟩
  have a0 : bits .and .i64 (n : Int) 63 = (m0 : Int) := by rw [and63]; omega
  have a1 : bits .and .i64 ((n : Int) / 64) 63 = (m1 : Int) := by rw [and63]; omega
  have a2 : bits .and .i64 ((n : Int) / 4096) 63 = (m2 : Int) := by rw [and63]; omega
  have b0 : m0 < 64 := by omega
  have b1 : m1 < 64 := by omega
  have b2 : m2 < 64 := by omega
  by_cases h1 : n < 128
  · have h1' : (n : Int) < 128 := by omega
    have hc := conv_at w n _ [.int .u8 n] 1 (enc1 h1) (by simp only [byt, List.map_cons, List.map_nil]; rw [u8N (a := n) (b := (n : Int)) (by omega) rfl]) rfl
    clear hm0 hm1 hm2 a0 a1 a2
    go_enter Tryd.func13, Tryd.ntmps13
    go_wp2
    go_ret
    exact ⟨rfl, (Below.refl _ _).alloc (Nat.le_refl _) _⟩
  · have h1' : ¬ (n : Int) < 128 := by omega
    by_cases h2 : n < 2048
    · have h2' : (n : Int) < 2048 := by omega
      have h3 : (128 : Int) ≤ n := by omega
      have hc := conv_at w n _ [.int .u8 (192 + (n : Int) / 64), .int .u8 (128 + (m0 : Int))] 2 (enc2 (by omega) h2) (by simp only [byt, List.map_cons, List.map_nil]; rw [u8N (a := 192 + n / 64) (b := 192 + (n : Int) / 64) (by omega) (by omega), u8N (a := 128 + n % 64) (b := 128 + (m0 : Int)) (by omega) (by omega)]) rfl
      clear hm0 hm1 hm2 a1 a2
      go_enter Tryd.func13, Tryd.ntmps13
      go_wp2
      go_ret
      exact ⟨rfl, (Below.refl _ _).alloc (Nat.le_refl _) _⟩
    · have h2' : ¬ (n : Int) < 2048 := by omega
      by_cases h3 : n < 65536
      · have h3' : (n : Int) < 65536 := by omega
        have h4 : (2048 : Int) ≤ n := by omega
        have hc := conv_at w n _ [.int .u8 (224 + (n : Int) / 4096), .int .u8 (128 + (m1 : Int)), .int .u8 (128 + (m0 : Int))] 3 (enc3 hv (by omega) h3) (by simp only [byt, List.map_cons, List.map_nil]; rw [u8N (a := 224 + n / 4096) (b := 224 + (n : Int) / 4096) (by omega) (by omega), u8N (a := 128 + n / 64 % 64) (b := 128 + (m1 : Int)) (by omega) (by omega), u8N (a := 128 + n % 64) (b := 128 + (m0 : Int)) (by omega) (by omega)]) rfl
        clear hm0 hm1 hm2 a2
        go_enter Tryd.func13, Tryd.ntmps13
        go_wp2
        go_ret
        exact ⟨rfl, (Below.refl _ _).alloc (Nat.le_refl _) _⟩
      · have h3' : ¬ (n : Int) < 65536 := by omega
        have h4 : (65536 : Int) ≤ n := by omega
        have hc := conv_at w n _ [.int .u8 (240 + (n : Int) / 262144), .int .u8 (128 + (m2 : Int)), .int .u8 (128 + (m1 : Int)), .int .u8 (128 + (m0 : Int))] 4 (enc4 hv (by omega)) (by simp only [byt, List.map_cons, List.map_nil]; rw [u8N (a := 240 + n / 262144) (b := 240 + (n : Int) / 262144) (by omega) (by omega), u8N (a := 128 + n / 4096 % 64) (b := 128 + (m2 : Int)) (by omega) (by omega), u8N (a := 128 + n / 64 % 64) (b := 128 + (m1 : Int)) (by omega) (by omega), u8N (a := 128 + n % 64) (b := 128 + (m0 : Int)) (by omega) (by omega)]) rfl
        clear hm0 hm1 hm2
        go_enter Tryd.func13, Tryd.ntmps13
        go_wp2
        go_ret
        exact ⟨rfl, (Below.refl _ _).alloc (Nat.le_refl _) _⟩
end Go.Proofs.YtenibebomafdmaaDoor
