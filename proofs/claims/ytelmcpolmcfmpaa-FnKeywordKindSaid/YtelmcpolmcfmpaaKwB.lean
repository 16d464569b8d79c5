/- The contracts of spec.IsWord and laws.kindOf (at a token that is a name or a keyword). -/
import Derived.Test.YtelmcpolmcfmpaaKwA
namespace Go.Proofs.Ytelmcpolmcfmpaa
open Go.RowKit

def wordB (l : List UInt8) : Bool := wds.contains l
def BoolBelow (b : Bool) (w : World) (e : Ending) (w' : World) : Prop := e = .returned (.bool b) ∧ Below w.heap.size w w'
def IntBelow (n : Int) (w : World) (e : Ending) (w' : World) : Prop := e = .returned (.int .i64 n) ∧ Below w.heap.size w w'

theorem getD_mem {L : List (List UInt8)} {k : Nat} (hk : k < L.length) : L[k]?.getD [] ∈ L := by
  rw [List.getElem?_eq_getElem hk]; exact List.getElem_mem hk
theorem mem_getD {L : List (List UInt8)} {l : List UInt8} (h : l ∈ L) : ∃ j, j < L.length ∧ L[j]?.getD [] = l := by
  obtain ⟨j, hj, rfl⟩ := List.mem_iff_getElem.1 h
  exact ⟨j, hj, by rw [List.getElem?_eq_getElem hj]; rfl⟩

set_option maxHeartbeats 400000 in
theorem isWord_any (s : ByteArray) (w : World) :
    Calls Try.prog 13 #[.string s] w (BoolBelow (wordB s.toList) w) := by
  go_enter Try.func13, Try.ntmps13
  go_wp2_with (go_at_call 30; refine (words_any _).mono ?_; rintro e w1 ⟨g, rfl, hg, hrow, hb⟩)
  have H := Lib.hid hrow
  clear hrow
  go_loop [4] (fun i => ∃ k : Nat, k ≤ 18 ∧ i = .int .i64 k ∧ Hid (∀ j, j < k → (wds[j]?.getD [] == s.toList) = false)) (fun i => 18 - (intOf i).toNat)
  case atStart => exact ⟨0, Nat.zero_le _, rfl, Lib.hid (fun j hj => absurd hj (Nat.not_lt_zero j))⟩
  case round =>
    obtain ⟨k, hk, rfl, hno⟩ := hrel
    by_cases hlt : k < 18
    · have hcell : w1.cell? ⟨g, k, none⟩ = some (.string ⟨(wds.getD k []).toArray⟩) := H.out k hlt
      go_wp2
      · have hyes : (wds[k]?.getD [] == s.toList) = true := by assumption
        go_ret
        refine ⟨ret_bool ?_, hb⟩
        have e : wds[k]?.getD [] = s.toList := by simpa using hyes
        unfold wordB
        rw [← e]
        exact (List.contains_iff_mem.2 (getD_mem (L := wds) hlt)).symm
      · have hnot : (wds[k]?.getD [] == s.toList) = false := by assumption
        go_round
        case rel =>
          refine ⟨k + 1, by omega, by go_num, Lib.hid (fun j hj => ?_)⟩
          by_cases hjk : j = k
          · subst hjk; exact hnot
          · exact hno.out j (by omega)
        case measure => simp [intOf]; omega
    · go_wp2
      go_ret
      refine ⟨ret_bool ?_, hb⟩
      unfold wordB
      by_cases hm : s.toList ∈ wds
      · obtain ⟨j, hj, e⟩ := mem_getD hm
        have hj' : j < 18 := hj
        have := hno.out j (by omega)
        rw [e] at this
        simp at this
      · exact (Bool.eq_false_iff.2 (fun h => hm (List.contains_iff_mem.1 h))).symm

def tokV (k : Int) (s : ByteArray) : Value := .agg #[.int .i64 k, .int .i64 0, .string s, .string ⟨#[]⟩, .int .i64 0, .int .i64 0]

set_option maxHeartbeats 400000 in
theorem kindName_any (s : ByteArray) (w : World) :
    Calls Try.prog 14 #[tokV 1 s] w (IntBelow 10 w) := by
  unfold tokV
  go_enter Try.func14, Try.ntmps14
  go_wp2
  go_ret
  exact ⟨rfl, (Below.refl _ _).alloc (Nat.le_refl _) _⟩

theorem puns_apart : ∀ l ∈ kws, ∀ k, k < 10 → (puns[k]?.getD [] == l) = false := by decide
theorem kwKind_at : ∀ j : Nat, j < 18 → kwKind (kws[j]?.getD []) = 18 + (j : Int) := by decide
theorem strRow_at (L : List (List UInt8)) (cs : Array Value) (t : TypeId) (w : World) (g : Nat) (hg : g = w.heap.size) (h : cs = (L.map fun l => Value.string ⟨l.toArray⟩).toArray) : StrRow L g (w.alloc (.cells cs t)) := by
  subst hg; exact strRow_new L cs t w h
theorem wds_kws : ∀ l ∈ wds, l ∈ kws := by decide
theorem not_wds_kind (l : List UInt8) (h : l ∉ wds) : kwKind l = 10 := by
  simp only [wds, List.mem_cons, List.not_mem_nil, or_false, not_or] at h
  simp [kwKind, h]

set_option maxHeartbeats 400000 in
theorem kindWord_any (s : ByteArray) (w : World) (hs : s.toList ∈ kws) :
    Calls Try.prog 14 #[tokV 2 s] w (IntBelow (kwKind s.toList) w) := by
  have HP := Lib.hid (puns_apart _ hs)
  have HS := Lib.hid hs
  clear hs
  unfold tokV
  go_enter Try.func14, Try.ntmps14
  go_wp2
  go_loopw [4] (fun i wr => ∃ k : Nat, k ≤ 10 ∧ i = .int .i64 k ∧ Hid (StrRow puns (w.heap.size + 1) wr) ∧ wr.cell? ⟨w.heap.size, 2, none⟩ = some (.string s) ∧ Below w.heap.size w wr ∧ w.heap.size + 1 < wr.heap.size) (fun i _ => 10 - (intOf i).toNat)
  case atStart =>
    refine ⟨0, Nat.zero_le _, rfl, Lib.hid ?_, ?_, ((Below.refl _ _).alloc (Nat.le_refl _) _).alloc (by simp) _, by simp⟩
    · exact strRow_at puns _ _ _ _ (by simp) rfl
    · rw [World.cell?_alloc_past _ _ _ (by simp), World.cell?_alloc_at _ _ _ _ rfl]; rfl
  case round =>
    obtain ⟨k, hk, rfl, H, hs2, hb, hsz⟩ := hrel
    by_cases hlt : k < 10
    · have hcell : wr.cell? ⟨w.heap.size + 1, k, none⟩ = some (.string ⟨(puns.getD k []).toArray⟩) := H.out k hlt
      have hno := HP.out k hlt
      have hlt' : (k : Int) < 10 := by omega
      go_wp2
      go_quiet (fail)
      go_wp2
      go_roundw
      case rel => exact ⟨k + 1, by omega, by go_num, H, hs2, below_drewN hb _, hsz⟩
      case measure => simp [intOf]; omega
    · obtain ⟨wo, rfl⟩ : ∃ wo : World, wo = wr := ⟨_, rfl⟩
      go_wp2
      go_loopw [5] (fun i wx => ∃ k : Nat, k ≤ 18 ∧ i = .int .i64 k ∧ Hid (StrRow kws wo.heap.size wx) ∧ wx.cell? ⟨w.heap.size, 2, none⟩ = some (.string s) ∧ Below w.heap.size w wx ∧ Hid (∀ j, j < k → (kws[j]?.getD [] == s.toList) = false)) (fun i _ => 18 - (intOf i).toNat)
      case atStart =>
        refine ⟨0, Nat.zero_le _, rfl, Lib.hid (strRow_at kws _ _ _ _ rfl rfl), ?_, hb.alloc hb.size _, Lib.hid (fun j hj => absurd hj (Nat.not_lt_zero j))⟩
        rw [World.cell?_alloc_past _ _ _ (by omega)]; exact hs2
      case round =>
        obtain ⟨j, hj, rfl, H2, hs3, hb2, hno⟩ := hrel
        by_cases hlj : j < 18
        · have hcell : wr.cell? ⟨wo.heap.size, j, none⟩ = some (.string ⟨(kws.getD j []).toArray⟩) := H2.out j hlj
          have hlj' : (j : Int) < 18 := by omega
          by_cases heq : (kws[j]?.getD [] == s.toList) = true
          · go_wp2
            go_quiet (fail)
            go_wp2
            go_ret
            refine ⟨ret_int ?_, below_drewN hb2 _⟩
            have e : kws[j]?.getD [] = s.toList := by simpa using heq
            rw [← e]
            exact (kwKind_at j hlj).symm
          · have heq' : (kws[j]?.getD [] == s.toList) = false := by simpa using heq
            clear heq
            go_wp2
            go_quiet (fail)
            go_wp2
            go_roundw
            case rel =>
              refine ⟨j + 1, by omega, by go_num, H2, hs3, below_drewN hb2 _, Lib.hid (fun i hi => ?_)⟩
              by_cases hij : i = j
              · subst hij; exact heq'
              · exact hno.out i (by omega)
            case measure => simp [intOf]; omega
        · exfalso
          obtain ⟨i, hi, e⟩ := mem_getD HS.out
          have hi' : i < 18 := hi
          have := hno.out i (by omega)
          rw [e] at this
          simp at this

end Go.Proofs.Ytelmcpolmcfmpaa
