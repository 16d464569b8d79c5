/- The walk of laws.FnKeywordKind: it returns true, whatever the string, and changes nothing that was there. -/
import Derived.Test.YtelmcpolmcfmpaaKwB
import Derived.Deep.RegionWith
namespace Go.Proofs.Ytelmcpolmcfmpaa
open Go.RowKit

theorem below_blk {w w1 : World} {cs : Array Value} {t : TypeId} (hb : Below (w.alloc (.cells cs t)).heap.size (w.alloc (.cells cs t)) w1) :
    (∀ j, w1.cell? ⟨w.heap.size, j, none⟩ = cs[j]?) ∧ (∀ j, w1.frozen? ⟨w.heap.size, j, none⟩ = false) ∧ Below w.heap.size w w1 ∧ w.heap.size < w1.heap.size := by
  refine ⟨fun j => ?_, fun j => ?_, ((Below.refl _ _).alloc (Nat.le_refl _) _).trans (hb.mono (by simp)), by have := hb.size; simp at this; omega⟩
  · rw [hb.cell (p := ⟨w.heap.size, j, none⟩) (by simp), World.cell?_alloc_at _ _ _ _ rfl]
  · rw [hb.frozen (p := ⟨w.heap.size, j, none⟩) (by simp), World.frozen?_alloc_at _ _ _ _ rfl]

theorem kwKind_if : (kwKind [105, 102] == 24) = true := by decide

set_option maxHeartbeats 400000 in
theorem law_any (s : ByteArray) (w : World) (hs : s.size ≤ 9223372036854775807) :
    Calls Try.prog 4 #[.string s] w (BoolBelow true w) := by
  by_cases hw : s.toList ∈ wds
  · have hw' : wordB s.toList = true := List.contains_iff_mem.2 hw
    have hk : Hid (s.toList ∈ kws) := Lib.hid (wds_kws _ hw)
    clear hw
    go_enter Try.func4, Try.ntmps4
    go_wp2_with (first
      | (go_at_call 11; refine (name_any _ _ hs).mono ?_; rintro e w' ⟨b, rfl, rfl⟩)
      | (go_at_call 12; refine (keyword_any _ _).mono ?_; rintro e w' ⟨rfl, rfl⟩)
      | (go_at_call 13; refine (isWord_any _ _).mono ?_; rintro e w1 ⟨rfl, hb⟩; obtain ⟨h1, h2, h3, h4⟩ := below_blk hb; clear hb))
    rotate_right
    · have hcell : ∀ j, (w1.setCell ⟨w.heap.size, 0, none⟩ (.int .i64 2)).cell? ⟨w.heap.size, j, none⟩ = (#[Value.int .i64 2, .int .i64 0, .string s, .string ⟨#[]⟩, .int .i64 0, .int .i64 0] : Array Value)[j]? := by
        intro j
        have h1j := h1 j
        by_cases hj : j = 0
        · subst hj; exact World.cell?_setCell_same _ _ _ h1j
        · rw [World.cell?_setCell_other _ _ _ _ (by simp), h1j]
          obtain ⟨i, rfl⟩ := Nat.exists_eq_succ_of_ne_zero hj
          simp
      have hsize : w.heap.size < (w1.setCell ⟨w.heap.size, 0, none⟩ (.int .i64 2)).heap.size := by simpa using h4
      have hbel : Below w.heap.size w (w1.setCell ⟨w.heap.size, 0, none⟩ (.int .i64 2)) := h3.setCell (Nat.le_refl _) _
      generalize w1.setCell ⟨w.heap.size, 0, none⟩ (.int .i64 2) = w2 at hcell hsize hbel
      clear h1 h2 h3 h4
      go_region_with (first
        | (go_at_call 12; refine (keyword_any _ _).mono ?_; rintro e w' ⟨rfl, rfl⟩)
        | (go_at_call 14; refine (kindWord_any _ _ hk.out).mono ?_; rintro e w3 ⟨rfl, hb3⟩))
      all_goals
        go_wp2
        go_ret
        exact ⟨ret_bool (by simp), hbel.drew.trans (hb3.mono (Nat.le_of_lt hsize))⟩
    · go_ret; exact ⟨rfl, Below.refl _ _⟩
    · go_ret; exact ⟨ret_bool kwKind_if, Below.refl _ _⟩
    · go_ret; exact ⟨ret_bool kwKind_if, Below.refl _ _⟩
  · have hw' : wordB s.toList = false := Bool.eq_false_iff.2 (fun h => hw (List.contains_iff_mem.1 h))
    have hk : Hid (kwKind s.toList = 10) := Lib.hid (not_wds_kind _ hw)
    clear hw
    go_enter Try.func4, Try.ntmps4
    go_wp2_with (first
      | (go_at_call 11; refine (name_any _ _ hs).mono ?_; rintro e w' ⟨b, rfl, rfl⟩)
      | (go_at_call 12; refine (keyword_any _ _).mono ?_; rintro e w' ⟨rfl, rfl⟩)
      | (go_at_call 13; refine (isWord_any _ _).mono ?_; rintro e w1 ⟨rfl, hb⟩; obtain ⟨h1, h2, h3, h4⟩ := below_blk hb; clear hb))
    rotate_right
    · clear h2
      go_region_with (first
        | (go_at_call 12; refine (keyword_any _ _).mono ?_; rintro e w' ⟨rfl, rfl⟩)
        | (go_at_call 14; refine (kindName_any _ _).mono ?_; rintro e w3 ⟨rfl, hb3⟩))
      all_goals
        go_wp2
        go_ret
        exact ⟨ret_bool (by simp [hk.out]), h3.drew.trans (hb3.mono (Nat.le_of_lt h4))⟩
    · go_ret; exact ⟨rfl, Below.refl _ _⟩
    · go_ret; exact ⟨ret_bool kwKind_if, Below.refl _ _⟩
    · go_ret; exact ⟨ret_bool kwKind_if, Below.refl _ _⟩
end Go.Proofs.Ytelmcpolmcfmpaa
