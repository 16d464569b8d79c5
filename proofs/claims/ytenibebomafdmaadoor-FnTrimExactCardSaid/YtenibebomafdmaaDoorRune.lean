/- Plain facts on UTF-8: what is encoded is decoded; the code points of a string that is made of encoded ones. -/
import Derived.WalkKit
import Derived.Laws.IdiomStrings
namespace Go.Proofs.YtenibebomafdmaaDoor.Rune
open Go

/-- A code point that stands for itself. -/
def okR (n : Nat) : Prop := n < 55296 ∨ (57344 ≤ n ∧ n ≤ 1114111)
instance (n : Nat) : Decidable (okR n) := by unfold okR; infer_instance
def lst (s : ByteArray) : List UInt8 := s.data.toList
def encB (n : Nat) : List UInt8 := lst (Utf8.encode (n : Int))
def enc (l : List Nat) : List UInt8 := l.flatMap encB

theorem valid_ok {n : Nat} (h : okR n) : Utf8.valid (n : Int) = true := by
  unfold okR at h; unfold Utf8.valid; simp; omega
theorem encode_eq {n : Nat} (h : okR n) : Utf8.encode (n : Int) =
    if n < 128 then ⟨#[UInt8.ofNat n]⟩
    else if n < 2048 then ⟨#[UInt8.ofNat (192 + n / 64), UInt8.ofNat (128 + n % 64)]⟩
    else if n < 65536 then ⟨#[UInt8.ofNat (224 + n / 4096), UInt8.ofNat (128 + n / 64 % 64), UInt8.ofNat (128 + n % 64)]⟩
    else ⟨#[UInt8.ofNat (240 + n / 262144), UInt8.ofNat (128 + n / 4096 % 64), UInt8.ofNat (128 + n / 64 % 64), UInt8.ofNat (128 + n % 64)]⟩ := by
  unfold Utf8.encode
  rw [valid_ok h]
  rfl
theorem encB_of {n : Nat} {s : ByteArray} {l : List UInt8} (h : Utf8.encode (n : Int) = s) (hl : lst s = l) : encB n = l := (congrArg lst h).trans hl
theorem enc1 {n : Nat} (h : n < 128) : encB n = [UInt8.ofNat n] :=
  encB_of (s := ⟨#[UInt8.ofNat n]⟩) (by rw [encode_eq (by unfold okR; omega), if_pos h]) rfl
theorem enc2 {n : Nat} (h1 : 128 ≤ n) (h : n < 2048) : encB n = [UInt8.ofNat (192 + n / 64), UInt8.ofNat (128 + n % 64)] :=
  encB_of (s := ⟨#[UInt8.ofNat (192 + n / 64), UInt8.ofNat (128 + n % 64)]⟩) (by rw [encode_eq (by unfold okR; omega), if_neg (by omega), if_pos h]) rfl
theorem enc3 {n : Nat} (hv : okR n) (h1 : 2048 ≤ n) (h : n < 65536) : encB n = [UInt8.ofNat (224 + n / 4096), UInt8.ofNat (128 + n / 64 % 64), UInt8.ofNat (128 + n % 64)] :=
  encB_of (s := ⟨#[UInt8.ofNat (224 + n / 4096), UInt8.ofNat (128 + n / 64 % 64), UInt8.ofNat (128 + n % 64)]⟩) (by rw [encode_eq hv, if_neg (by omega), if_neg (by omega), if_pos h]) rfl
theorem enc4 {n : Nat} (hv : okR n) (h1 : 65536 ≤ n) : encB n = [UInt8.ofNat (240 + n / 262144), UInt8.ofNat (128 + n / 4096 % 64), UInt8.ofNat (128 + n / 64 % 64), UInt8.ofNat (128 + n % 64)] :=
  encB_of (s := ⟨#[UInt8.ofNat (240 + n / 262144), UInt8.ofNat (128 + n / 4096 % 64), UInt8.ofNat (128 + n / 64 % 64), UInt8.ofNat (128 + n % 64)]⟩) (by rw [encode_eq hv, if_neg (by omega), if_neg (by omega), if_neg (by omega)]) rfl
theorem encB_pos {n : Nat} (hv : okR n) : 1 ≤ (encB n).length ∧ (encB n).length ≤ 4 := by
  rcases Nat.lt_or_ge n 128 with h | h
  · rw [enc1 h]; simp
  · rcases Nat.lt_or_ge n 2048 with h2 | h2
    · rw [enc2 h h2]; simp
    · rcases Nat.lt_or_ge n 65536 with h3 | h3
      · rw [enc3 hv h2 h3]; simp
      · rw [enc4 hv h3]; simp

theorem get_list {s : ByteArray} {j : Nat} {x : UInt8} (h : s.data.toList[j]? = some x) : s.get! j = x ∧ j < s.size := by
  have h' : s.data[j]? = some x := by simpa using h
  obtain ⟨hj, hx⟩ := Array.getElem?_eq_some_iff.1 h'
  refine ⟨?_, hj⟩
  have e : s.get! j = s.data[j]! := by cases s; rfl
  rw [e, getElem!_pos s.data j hj, hx]

theorem ofN {n : Nat} (h : n < 256) : (UInt8.ofNat n).toNat = n := by simp [UInt8.toNat_ofNat']; omega

theorem decode_at {s : ByteArray} {i n : Nat} (hv : okR n) (hs : ∀ k x, (encB n)[k]? = some x → s.data.toList[i + k]? = some x) : Utf8.decode s i = (n, (encB n).length) := by
  have hv' := hv
  unfold okR at hv'
  rcases Nat.lt_or_ge n 128 with h | h
  · rw [enc1 h] at hs ⊢
    have g0 := get_list (hs 0 _ rfl)
    unfold Utf8.decode
    simp only [g0.1, ofN (show n < 256 by omega)]
    rw [if_pos h]
    rfl
  · rcases Nat.lt_or_ge n 2048 with h2 | h2
    · rw [enc2 h h2] at hs ⊢
      have g0 := get_list (hs 0 _ rfl)
      have g1 := get_list (hs 1 _ rfl)
      unfold Utf8.decode
      simp only [g0.1, g1.1, ofN (show 192 + n / 64 < 256 by omega), ofN (show 128 + n % 64 < 256 by omega)]
      rw [if_neg (by omega), if_pos (by simp [g1.2]; omega), if_pos (by omega)]
      simp only [Prod.mk.injEq]
      exact ⟨by omega, rfl⟩
    · rcases Nat.lt_or_ge n 65536 with h3 | h3
      · rw [enc3 hv h2 h3] at hs ⊢
        have g0 := get_list (hs 0 _ rfl)
        have g1 := get_list (hs 1 _ rfl)
        have g2 := get_list (hs 2 _ rfl)
        have e : (224 + n / 4096) % 16 * 4096 + (128 + n / 64 % 64) % 64 * 64 + (128 + n % 64) % 64 = n := by omega
        unfold Utf8.decode
        simp only [g0.1, g1.1, g2.1, ofN (show 224 + n / 4096 < 256 by omega), ofN (show 128 + n / 64 % 64 < 256 by omega), ofN (show 128 + n % 64 < 256 by omega)]
        rw [if_neg (by omega), if_neg (by simp; omega), if_pos (by simp [g1.2, g2.2]; omega), e, if_pos (by simp [valid_ok hv]; omega)]
        rfl
      · rw [enc4 hv h3] at hs ⊢
        have g0 := get_list (hs 0 _ rfl)
        have g1 := get_list (hs 1 _ rfl)
        have g2 := get_list (hs 2 _ rfl)
        have g3 := get_list (hs 3 _ rfl)
        have e : (240 + n / 262144) % 8 * 262144 + (128 + n / 4096 % 64) % 64 * 4096 + (128 + n / 64 % 64) % 64 * 64 + (128 + n % 64) % 64 = n := by omega
        unfold Utf8.decode
        simp only [g0.1, g1.1, g2.1, g3.1, ofN (show 240 + n / 262144 < 256 by omega), ofN (show 128 + n / 4096 % 64 < 256 by omega), ofN (show 128 + n / 64 % 64 < 256 by omega), ofN (show 128 + n % 64 < 256 by omega)]
        rw [if_neg (by omega), if_neg (by simp; omega), if_neg (by simp; omega), if_pos (by simp [g1.2, g2.2, g3.2]; omega), e, if_pos (by simp [valid_ok hv]; omega)]
        rfl

theorem enc_cons (n : Nat) (l : List Nat) : enc (n :: l) = encB n ++ enc l := rfl
theorem enc_app (a b : List Nat) : enc (a ++ b) = enc a ++ enc b := by simp [enc]
theorem enc_len {l : List Nat} (h : ∀ n ∈ l, okR n) : l.length ≤ (enc l).length := by
  induction l with
  | nil => simp
  | cons n l ih =>
    rw [enc_cons, List.length_append, List.length_cons]
    have := ih fun x hx => h x (List.mem_cons_of_mem _ hx)
    have := (encB_pos (h n (List.mem_cons_self ..))).1
    omega

def runeV (n : Nat) : Value := .int .i32 n
theorem runesFrom_enc : ∀ (l : List Nat) (s : ByteArray) (pre : List UInt8) (bound : Nat) (acc : Array Value), (∀ n ∈ l, okR n) → s.data.toList = pre ++ enc l → l.length ≤ bound →
    Conv.runesFrom s bound pre.length acc = acc ++ (l.map runeV).toArray
  | [], s, pre, bound, acc, _, hs, _ => by
    have hz : s.size = pre.length := by
      have := congrArg List.length hs; simpa [enc] using this
    cases bound with
    | zero => simp [Conv.runesFrom]
    | succ b => unfold Conv.runesFrom; rw [if_neg (by omega)]; simp
  | n :: l, s, pre, bound, acc, hv, hs, hb => by
    cases bound with
    | zero => simp at hb
    | succ b =>
      have hn := hv n (List.mem_cons_self ..)
      have hp := encB_pos hn
      rw [enc_cons] at hs
      have hz : s.size = pre.length + ((encB n).length + (enc l).length) := by
        have := congrArg List.length hs; simpa using this
      have hd := decode_at (s := s) (i := pre.length) hn (fun k x hk => by
        rw [hs, List.getElem?_append_right (by omega)]
        have : pre.length + k - pre.length = k := by omega
        rw [this, List.getElem?_append_left (List.getElem?_eq_some_iff.1 hk).1, hk])
      unfold Conv.runesFrom
      rw [if_pos (by omega)]
      simp only [hd]
      have := runesFrom_enc l s (pre ++ encB n) b (acc.push (.int .i32 (Int.ofNat n))) (fun x hx => hv x (List.mem_cons_of_mem _ hx)) (by rw [hs, List.append_assoc]) (by simp at hb; omega)
      rw [List.length_append] at this
      rw [this]
      simp [runeV]
end Go.Proofs.YtenibebomafdmaaDoor.Rune
