/- What stands in UTF-8 is made of code points; strings escaped. Plain. -/
import Derived.Test.YtadehfoamdkcmaaDoorRune
import Derived.Lib.ValidLaws
namespace Go.Proofs.YtadehfoamdkcmaaDoor
open Rune

theorem byte_back (b : UInt8) {n : Nat} (h : n = b.toNat) : UInt8.ofNat n = b := by
  subst h
  exact UInt8.ofNat_toNat
theorem valid_arm {r k : Nat} {l : List UInt8} (h : (if r = 65533 ∧ k = 1 then false else Lib.validD (l.drop k)) = true) : Lib.validD (l.drop k) = true ∧ ¬(r = 65533 ∧ k = 1) := by
  by_cases c : r = 65533 ∧ k = 1
  · rw [if_pos c] at h; cases h
  · rw [if_neg c] at h; exact ⟨h, c⟩
theorem list2 {l : List UInt8} (h : 1 < l.length) : l = [l.getD 0 0, l.getD 1 0] ++ l.drop 2 := by
  match l, h with
  | a :: b :: t, _ => rfl
theorem list3 {l : List UInt8} (h : 2 < l.length) : l = [l.getD 0 0, l.getD 1 0, l.getD 2 0] ++ l.drop 3 := by
  match l, h with
  | a :: b :: c :: t, _ => rfl
theorem list4 {l : List UInt8} (h : 3 < l.length) : l = [l.getD 0 0, l.getD 1 0, l.getD 2 0, l.getD 3 0] ++ l.drop 4 := by
  match l, h with
  | a :: b :: c :: d :: t, _ => rfl

def Utf (l : List UInt8) : Prop := ∃ r : List Nat, (∀ n ∈ r, okR n) ∧ l = enc r
theorem Utf.cons {n : Nat} {l : List UInt8} (hn : okR n) (h : Utf l) : Utf (encB n ++ l) := by
  obtain ⟨r, hr, rfl⟩ := h
  exact ⟨n :: r, fun m hm => by
    rcases List.mem_cons.1 hm with rfl | hm
    · exact hn
    · exact hr m hm, (enc_cons n r).symm⟩

set_option maxHeartbeats 1000000 in
theorem valid_utf : ∀ (m : Nat) (l : List UInt8), l.length ≤ m → Lib.validD l = true → Utf l
  | 0, l, hm, _ => by
    have : l = [] := List.eq_nil_of_length_eq_zero (by omega)
    subst this
    exact ⟨[], fun n hn => by simp at hn, rfl⟩
  | m + 1, l, hm, hv => by
    by_cases hne : l = []
    · subst hne
      exact ⟨[], fun n hn => by simp at hn, rfl⟩
    · have hl : 0 < l.length := List.length_pos_iff.2 hne
      rw [Lib.validD_step l hne, Lib.decodeL_N] at hv
      have h0 := (l.getD 0 0).toNat_lt
      have h1 := (l.getD 1 0).toNat_lt
      have h2 := (l.getD 2 0).toNat_lt
      have h3 := (l.getD 3 0).toNat_lt
      have ih := fun k (hk : 1 ≤ k) (h : Lib.validD (l.drop k) = true) => valid_utf m (l.drop k) (by rw [List.length_drop]; omega) h
      have b0 := fun {n : Nat} (h : n = (l.getD 0 0).toNat) => byte_back (l.getD 0 0) h
      have b1 := fun {n : Nat} (h : n = (l.getD 1 0).toNat) => byte_back (l.getD 1 0) h
      have b2 := fun {n : Nat} (h : n = (l.getD 2 0).toNat) => byte_back (l.getD 2 0) h
      have b3 := fun {n : Nat} (h : n = (l.getD 3 0).toNat) => byte_back (l.getD 3 0) h
      have l2 := fun h => list2 (l := l) h
      have l3 := fun h => list3 (l := l) h
      have l4 := fun h => list4 (l := l) h
      have l1 : l = [l.getD 0 0] ++ l.drop 1 := by
        match l, hl with
        | a :: t, _ => rfl
      generalize l.getD 0 0 = x0 at *
      generalize l.getD 1 0 = x1 at *
      generalize l.getD 2 0 = x2 at *
      generalize l.getD 3 0 = x3 at *
      unfold Lib.decodeN at hv
      by_cases c1 : x0.toNat < 128
      · rw [if_pos c1] at hv
        have := valid_arm hv
        have hu := Utf.cons (n := x0.toNat) (by unfold okR; omega) (ih 1 (by omega) this.1)
        rw [enc1 c1, b0 rfl, ← l1] at hu
        exact hu
      · rw [if_neg c1] at hv
        by_cases c2 : x0.toNat / 32 = 6 ∧ (1 < l.length ∧ x1.toNat / 64 = 2)
        · rw [if_pos c2] at hv
          by_cases d2 : x0.toNat % 32 * 64 + x1.toNat % 64 ≥ 128
          · rw [if_pos d2] at hv
            have := valid_arm hv
            have hu := Utf.cons (n := x0.toNat % 32 * 64 + x1.toNat % 64) (by unfold okR; omega) (ih 2 (by omega) this.1)
            rw [enc2 (by omega) (by omega), b0 (by omega), b1 (by omega), ← l2 c2.2.1] at hu
            exact hu
          · rw [if_neg d2] at hv
            exact absurd ⟨rfl, rfl⟩ (valid_arm hv).2
        · rw [if_neg c2] at hv
          by_cases c3 : x0.toNat / 16 = 14 ∧ (1 < l.length ∧ x1.toNat / 64 = 2) ∧ (2 < l.length ∧ x2.toNat / 64 = 2)
          · rw [if_pos c3] at hv
            split at hv
            · rename_i d3
              have := valid_arm hv
              have hok : okR (x0.toNat % 16 * 4096 + x1.toNat % 64 * 64 + x2.toNat % 64) := by unfold okR; omega
              have hu := Utf.cons hok (ih 3 (by omega) this.1)
              rw [enc3 hok (by omega) (by omega), b0 (by omega), b1 (by omega), b2 (by omega), ← l3 c3.2.2.1] at hu
              exact hu
            · exact absurd ⟨rfl, rfl⟩ (valid_arm hv).2
          · rw [if_neg c3] at hv
            split at hv
            · rename_i c4
              split at hv
              · rename_i d4
                have := valid_arm hv
                have hok : okR (x0.toNat % 8 * 262144 + x1.toNat % 64 * 4096 + x2.toNat % 64 * 64 + x3.toNat % 64) := by unfold okR; omega
                have hu := Utf.cons hok (ih 4 (by omega) this.1)
                rw [enc4 hok (by omega), b0 (by omega), b1 (by omega), b2 (by omega), b3 (by omega), ← l4 c4.2.2.2.1] at hu
                exact hu
              · exact absurd ⟨rfl, rfl⟩ (valid_arm hv).2
            · exact absurd ⟨rfl, rfl⟩ (valid_arm hv).2

/-- A digit of a number in base 16. -/
def dig (n : Nat) : UInt8 := UInt8.ofNat (if n < 10 then 48 + n else 87 + n)
/-- The last k digits of a number in base 16. -/
def hexT (n : Nat) : Nat → List UInt8
  | 0 => []
  | k + 1 => dig (n / 16 ^ k % 16) :: hexT n k
theorem hexT_len (n : Nat) : ∀ k, (hexT n k).length = k
  | 0 => rfl
  | k + 1 => by simp [hexT, hexT_len n k]
/-- A code point, escaped. -/
def escB (r : Nat) : List UInt8 :=
  if r = 34 then [92, 34] else if r = 92 then [92, 92] else if r = 8 then [92, 98] else if r = 12 then [92, 102] else if r = 10 then [92, 110] else if r = 13 then [92, 114] else if r = 9 then [92, 116]
  else if r = 0 then [92, 117, 48, 48, 48, 48] else if r < 32 ∨ (127 ≤ r ∧ r ≤ 159) then [92, 117] ++ (hexT (65536 + r) 5).drop 1 else encB r
theorem escB_len {r : Nat} (h : okR r) : (escB r).length ≤ 6 := by
  unfold escB
  repeat' split
  all_goals first | (simp; done) | (simp [hexT_len]; done) | (have := encB_pos h; omega)
def esc (l : List Nat) : List UInt8 := l.flatMap escB
theorem esc_len {l : List Nat} (h : ∀ n ∈ l, okR n) : (esc l).length ≤ 6 * l.length := by
  induction l with
  | nil => simp [esc]
  | cons r l ih =>
    have h1 := escB_len (h r (List.mem_cons_self ..))
    have h2 := ih (fun n hn => h n (List.mem_cons_of_mem _ hn))
    simp only [esc, List.flatMap_cons, List.length_append, List.length_cons] at h2 ⊢
    omega
theorem esc_app (a b : List Nat) : esc (a ++ b) = esc a ++ esc b := by simp [esc]
theorem esc_snoc (l : List Nat) (r : Nat) : esc (l ++ [r]) = esc l ++ escB r := by simp [esc]
def text (l : List Nat) : List UInt8 := [34] ++ esc l ++ [34]
end Go.Proofs.YtadehfoamdkcmaaDoor
