/- The small contracts of the lexer's words: isDigit, isLetter, IsName, getTokenKindFromID, KeywordData, Keyword, words. No condition but that the string's length is one that Go has. -/
import Derived.Test.YtelmcpolmcfmpaaRows
import Derived.WalkKit
import Derived.WalkSpells
import Derived.WalkLawsBesides
import Derived.BigQuiet
import Derived.Deep.QuietTactic
import Derived.Deep.Draws
import Derived.BigGuardPart
import Derived.Lib.Hide
namespace Go.Proofs.Ytelmcpolmcfmpaa
open Go.RowKit

theorem ret_bool {a b : Bool} (h : a = b) : Ending.returned (.bool a) = .returned (.bool b) := by rw [h]
theorem ret_int {k : IntKind} {a b : Int} (h : a = b) : Ending.returned (.int k a) = .returned (.int k b) := by rw [h]
def SomeBool (w : World) (e : Ending) (w' : World) : Prop := ∃ b, e = .returned (.bool b) ∧ w = w'
def kws : List (List UInt8) := [[97, 115, 115, 101, 114, 116], [101, 108, 115, 101], [101, 114, 114, 111, 114], [102, 97, 108, 115, 101], [102, 111, 114], [102, 117, 110, 99, 116, 105, 111, 110], [105, 102], [105, 109, 112, 111, 114, 116], [105, 109, 112, 111, 114, 116, 115, 116, 114], [105, 109, 112, 111, 114, 116, 98, 105, 110], [105, 110], [108, 111, 99, 97, 108], [110, 117, 108, 108], [115, 101, 108, 102], [115, 117, 112, 101, 114], [116, 97, 105, 108, 115, 116, 114, 105, 99, 116], [116, 104, 101, 110], [116, 114, 117, 101]]
def wds : List (List UInt8) := [[97, 115, 115, 101, 114, 116], [101, 108, 115, 101], [101, 114, 114, 111, 114], [102, 97, 108, 115, 101], [102, 111, 114], [102, 117, 110, 99, 116, 105, 111, 110], [105, 102], [105, 109, 112, 111, 114, 116], [105, 109, 112, 111, 114, 116, 98, 105, 110], [105, 109, 112, 111, 114, 116, 115, 116, 114], [105, 110], [108, 111, 99, 97, 108], [110, 117, 108, 108], [115, 101, 108, 102], [115, 117, 112, 101, 114], [116, 97, 105, 108, 115, 116, 114, 105, 99, 116], [116, 104, 101, 110], [116, 114, 117, 101]]
def puns : List (List UInt8) := [[123], [125], [91], [93], [44], [36], [46], [40], [41], [59]]
def kwKind (l : List UInt8) : Int := if l == [97, 115, 115, 101, 114, 116] then 18 else if l == [101, 108, 115, 101] then 19 else if l == [101, 114, 114, 111, 114] then 20 else if l == [102, 97, 108, 115, 101] then 21 else if l == [102, 111, 114] then 22 else if l == [102, 117, 110, 99, 116, 105, 111, 110] then 23 else if l == [105, 102] then 24 else if l == [105, 109, 112, 111, 114, 116] then 25 else if l == [105, 109, 112, 111, 114, 116, 115, 116, 114] then 26 else if l == [105, 109, 112, 111, 114, 116, 98, 105, 110] then 27 else if l == [105, 110] then 28 else if l == [108, 111, 99, 97, 108] then 29 else if l == [110, 117, 108, 108] then 30 else if l == [115, 101, 108, 102] then 31 else if l == [115, 117, 112, 101, 114] then 32 else if l == [116, 97, 105, 108, 115, 116, 114, 105, 99, 116] then 33 else if l == [116, 104, 101, 110] then 34 else if l == [116, 114, 117, 101] then 35 else 10
def isLetterB (c : Int) : Bool := decide (97 ≤ c ∧ c ≤ 122 ∨ 65 ≤ c ∧ c ≤ 90 ∨ c = 95)
def isDigitB (c : Int) : Bool := decide (48 ≤ c ∧ c ≤ 57)

theorem digit_any (c : Int) (w : World) :
    Calls Try.prog 28 #[.int .u8 c] w fun e w' => e = .returned (.bool (isDigitB c)) ∧ w = w' := by
  go_enter Try.func28, Try.ntmps28
  go_wp2
  all_goals (go_ret; refine ⟨ret_bool ?_, rfl⟩; simp [isDigitB]; try omega)

theorem letter_any (c : Int) (w : World) :
    Calls Try.prog 27 #[.int .u8 c] w fun e w' => e = .returned (.bool (isLetterB c)) ∧ w = w' := by
  go_enter Try.func27, Try.ntmps27
  go_wp2
  all_goals (go_ret; refine ⟨ret_bool ?_, rfl⟩; rw [Bool.eq_iff_iff]; simp [isLetterB]; try omega)

theorem name_any (s : ByteArray) (w : World) (hs : s.size ≤ 9223372036854775807) :
    Calls Try.prog 11 #[.string s] w (SomeBool w) := by
  go_enter Try.func11, Try.ntmps11
  go_wp2
  go_loop [3] (fun i => ∃ k : Nat, k ≤ s.size ∧ i = .int .i64 k) (fun i => s.size - (intOf i).toNat)
  case atStart => exact ⟨0, Nat.zero_le _, rfl⟩
  case round =>
    obtain ⟨k, hk, rfl⟩ := hrel
    go_wp2_with (first | (go_at_call 27; refine (letter_any _ _).mono ?_; rintro e w' ⟨rfl, rfl⟩) | (go_at_call 28; refine (digit_any _ _).mono ?_; rintro e w' ⟨rfl, rfl⟩))
    all_goals first
      | (go_round; (case rel => exact ⟨k + 1, by omega, by go_num⟩); (case measure => simp [intOf]; omega))
      | (go_ret; exact ⟨_, rfl, rfl⟩)

theorem kw_any (s : ByteArray) (w : World) :
    Calls Try.prog 37 #[.string s] w fun e w' => e = .returned (.int .i64 (kwKind s.toList)) ∧ w = w' := by
  go_enter Try.func37, Try.ntmps37
  go_wp2
  all_goals (go_ret; exact ⟨ret_int (by simp only [kwKind, *]; rfl), rfl⟩)

theorem kwd_any (s : ByteArray) (w : World) :
    Calls Try.prog 29 #[.string s] w fun e w' => e = .returned (.int .i64 (kwKind s.toList)) ∧ w = w' := by
  go_enter Try.func29, Try.ntmps29
  go_wp2_with (go_at_call 37; refine (kw_any _ _).mono ?_; rintro e w' ⟨rfl, rfl⟩)
  go_ret
  exact ⟨rfl, rfl⟩
theorem keyword_any (s : ByteArray) (w : World) :
    Calls Try.prog 12 #[.string s] w fun e w' => e = .returned (.int .i64 (kwKind s.toList)) ∧ w = w' := by
  go_enter Try.func12, Try.ntmps12
  go_wp2_with (go_at_call 29; refine (kwd_any _ _).mono ?_; rintro e w' ⟨rfl, rfl⟩)
  go_ret
  exact ⟨rfl, rfl⟩
def strAt (L : List (List UInt8)) (k : Nat) : Value := .string ⟨(L.getD k []).toArray⟩
def StrRow (L : List (List UInt8)) (g : Nat) (w : World) : Prop := ∀ k, k < L.length → w.cell? ⟨g, k, none⟩ = some (strAt L k)
def Words (n : Nat) (L : List (List UInt8)) (w : World) (e : Ending) (w' : World) : Prop := ∃ g : Nat, e = .returned (.slice (some ⟨g, 0, none⟩) n n) ∧ w.heap.size ≤ g ∧ StrRow L g w' ∧ Below w.heap.size w w'

theorem strRow_new (L : List (List UInt8)) (cs : Array Value) (t : TypeId) (w : World) (h : cs = (L.map fun l => Value.string ⟨l.toArray⟩).toArray) : StrRow L w.heap.size (w.alloc (.cells cs t)) := by
  intro k hk
  subst h
  rw [World.cell?_alloc_at _ _ _ _ rfl]
  simp [strAt, hk]

theorem words_any (w : World) : Calls Try.prog 30 #[] w (Words 18 wds w) := by
  go_enter Try.func30, Try.ntmps30
  go_wp2
  go_ret
  exact ⟨w.heap.size, rfl, Nat.le_refl _, strRow_new wds _ _ _ rfl, (Below.refl _ _).alloc (Nat.le_refl _) _⟩

end Go.Proofs.Ytelmcpolmcfmpaa
