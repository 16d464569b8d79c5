/- The lexer: lexWhitespace. -/
import Derived.Test.YtlbgmcpjdfoalaaDoorLrF
namespace Go.Proofs.YtlbgmcpjdfoalaaDoor
open Go.RowKit Go.Sort Rune

theorem tabs_grown {w w' : World} {g : Nat} (h : Lib.Utf8Tabs 1 2 w) (hg : w.grownBy w' (some g)) (h2 : 2 < g) : Lib.Utf8Tabs 1 2 w' := by
  have ne : ∀ k, k ≤ 2 → some k ≠ some g := fun k hk e => by injection e; omega
  exact ⟨fun c hc => hg.cell (h.1 c hc) (ne 1 (by omega)), fun i hi => ⟨hg.cell (h.2 i hi).1 (ne 2 (by omega)), hg.cell (h.2 i hi).2 (ne 2 (by omega))⟩⟩
theorem wsZ_nat {r : Nat} (h : wsZ (r : Int) = true) : r = 10 ∨ r = 32 ∨ r = 9 ∨ r = 13 := by
  simp [wsZ, blkZ] at h
  omega
theorem space_yes (c : Int) (h : wsZ c = true) (w : World) : Calls Tryd.prog 44 #[.int .i32 c] w fun e w' => e = .returned (.bool true) ∧ w = w' := by
  have := space_q c w
  rw [h] at this
  exact this
theorem space_no (c : Int) (h : wsZ c = false) (w : World) : Calls Tryd.prog 44 #[.int .i32 c] w fun e w' => e = .returned (.bool false) ∧ w = w' := by
  have := space_q c w
  rw [h] at this
  exact this
theorem one_byte {s : ByteArray} {pos r : Nat} {l : List Nat} (h : Rem s pos (r :: l)) (hr : r < 128) : (encB r).length = 1 ∧ s.data.toList[pos]? = some (UInt8.ofNat r) ∧ Rem s (pos + 1) l := by
  obtain ⟨hp, hm, _⟩ := h.head
  have e := enc1 hr
  rw [e] at hm
  exact ⟨by rw [e]; rfl, hp.2.2 0 _ (by rw [e]; rfl), hm⟩
theorem first_byte {s : ByteArray} {pos r : Nat} {l : List Nat} (h : Rem s pos (r :: l)) (hr : wsZ (r : Int) = false) : ∀ b, s.data.toList[pos]? = some b → wsB b = false := by
  obtain ⟨hp, _, _⟩ := h.head
  intro b hb
  have hl := encB_pos hp.1
  have hl0 : 0 < (encB r).length := hl.1
  obtain ⟨x, hx⟩ : ∃ x, (encB r)[0]? = some x := ⟨_, List.getElem?_eq_getElem hl0⟩
  have h0 := hp.2.2 0 x hx
  rw [Nat.add_zero, hb] at h0
  have h0 := Option.some.inj h0
  rcases Nat.lt_or_ge r 128 with h1 | h1
  · rw [enc1 h1] at hx
    have e : UInt8.ofNat r = b := by rw [h0]; simpa using hx
    rw [wsB_int, ← e, ofN (by omega)]
    exact hr
  · have hm : b ∈ encB r := by rw [h0]; exact List.mem_of_getElem? hx
    have hh := high_bytes hp.1 h1 b hm
    have := blk_high hh
    unfold wsB
    rw [this.1]
    simpa using this.2

def SpP (g : Nat) (s : ByteArray) (p : Nat) (w : World) (e : Ending) (w' : World) : Prop :=
  ∃ q l, e = .returned (.tuple #[.int .i64 (ws (seg s p q)).1, .int .i64 (ws (seg s p q)).2]) ∧ WsEnds s p q ∧ Rem s q l ∧ LexAt w' g s q ∧ w.grownBy w' (some g)

set_option maxRecDepth 100000 in
set_option maxHeartbeats 2000000 in
theorem lexws_any (g : Nat) (s : ByteArray) (p : Nat) (l0 : List Nat) (w : World) (hL : LexAt w g s p) (hR : Rem s p l0) (hz : s.size ≤ 2000) (hT : Lib.Utf8Tabs 1 2 w) (hg2 : 2 < g) :
    Calls Tryd.prog 40 #[.pointer (some ⟨g, 0, none⟩)] w (SpP g s p w) := by
  have HL0 := Lib.hid hL
  have HR0 := Lib.hid hR
  have HT0 := Lib.hid hT
  clear hL hR hT
  go_enter Tryd.func40, Tryd.ntmps40
  go_wp2_with (go_at_call 35; refine (peek_any g s p l0 _ HL0.out.c2 HL0.out.c10 HR0.out hz HT0.out).mono ?_; rintro e W1 ⟨rfl, hb⟩; refine Hid.out ?_)
  refine Lib.hid ?_
  have HL1 := Lib.hid (HL0.out.move (hb.block g HL0.out.lt))
  have HG1 := Lib.hid (below_grown hb (some g))
  clear hb
  go_wp2_with fail
  go_loopw [4, 5, 6] (fun r i n wr => ∃ (pos : Nat) (l : List Nat), r = .int .i32 (headV l) ∧ p ≤ pos ∧ n = .int .i64 (ws (seg s p pos)).1 ∧ i = .int .i64 (ws (seg s p pos)).2 ∧ Hid (Rem s pos l) ∧ Hid (LexAt wr g s pos) ∧ Hid (w.grownBy wr (some g)) ∧
    Hid (∀ j b, p ≤ j → j < pos → s.data.toList[j]? = some b → wsB b = true)) (fun r _ _ wr => s.size - (match wr.cell? ⟨g, 10, none⟩ with | some (.int _ n) => n.toNat | _ => 0))
  case atStart => exact ⟨p, l0, rfl, Nat.le_refl _, by rw [seg_self]; rfl, by rw [seg_self]; rfl, HR0, HL1, HG1, Lib.hid (fun j b h1 h2 => by omega)⟩
  case round =>
    obtain ⟨pos, l, rfl, hpp, rfl, rfl, HR, HL, HG, HW⟩ := hrel
    have HT := Lib.hid (tabs_grown HT0.out HG.out hg2)
    have hmeas : (match wr.cell? ⟨g, 10, none⟩ with | some (.int _ n) => n.toNat | _ => 0) = pos := by rw [HL.out.c10]; simp
    rw [hmeas]
    clear hmeas
    have hps := HR.out.1
    have hle := ws_le (seg s p pos)
    have hsl := seg_len s p pos
    have HA := Lib.hid (show ∀ b, s.data.toList[pos]? = some b → ws (seg s p (pos + 1)) = wsStep (ws (seg s p pos)) b from fun b hb => by rw [seg_snoc hpp hb, ws_snoc])
    obtain ⟨a, ha⟩ : ∃ a, (ws (seg s p pos)).1 = a := ⟨_, rfl⟩
    obtain ⟨c, hc⟩ : ∃ c, (ws (seg s p pos)).2 = c := ⟨_, rfl⟩
    have HE := Lib.hid (show ws (seg s p pos) = (a, c) by rw [← ha, ← hc])
    rw [ha] at hle ⊢
    rw [hc] at hle ⊢
    clear ha hc
    cases l with
    | nil =>
      obtain rfl : pos = s.size := HR.out.nil_end
      go_wp2_with (go_at_call 44; refine (space_no _ rfl _).mono ?_; rintro e w' ⟨rfl, rfl⟩)
      go_ret2
      exact ⟨s.size, [], by rw [HE.out]; rfl, ⟨hpp, Nat.le_refl _, fun j b h1 h2 h3 => HW.out j b h1 h2 h3, fun b hb => by
        have := (List.getElem?_eq_some_iff.1 hb).1
        rw [size_list] at this
        omega⟩, HR.out, HL.out, HG.out⟩
    | cons r l =>
      cases hw : wsZ (r : Int) with
      | false =>
        have HF := Lib.hid (first_byte HR.out hw)
        go_wp2_with (go_at_call 44; refine (space_no _ hw _).mono ?_; rintro e w' ⟨rfl, rfl⟩)
        go_ret2
        exact ⟨pos, r :: l, by rw [HE.out]; rfl, ⟨hpp, hps, fun j b h1 h2 h3 => HW.out j b h1 h2 h3, HF.out⟩, HR.out, HL.out, HG.out⟩
      | true =>
        have hlt := HR.out.head.2.2
        have hr4 := wsZ_nat hw
        obtain ⟨hn1, hb1, hR1⟩ := one_byte HR.out (by omega)
        have hw1 := HA.out _ hb1
        rw [HE.out] at hw1
        have HR1 := Lib.hid hR1
        have HW1 := Lib.hid (show ∀ j b, p ≤ j → j < pos + 1 → s.data.toList[j]? = some b → wsB b = true from fun j b h1 h2 h3 => by
          rcases Nat.lt_or_ge j pos with h4 | h4
          · exact HW.out j b h1 h4 h3
          · obtain rfl : j = pos := by omega
            have h3 := Option.some.inj (hb1.symm.trans h3)
            rw [← h3]
            rcases hr4 with rfl | rfl | rfl | rfl <;> rfl)
        have hnext := fun W (h1 : LexAt W g s pos) (h2 : Lib.Utf8Tabs 1 2 W) => next_any g s pos r l W h1 HR.out hz h2
        rw [hn1] at hnext
        have HN := Lib.hid hnext
        have HW2 := Lib.hid hw1
        clear hw1 hnext hb1 hR1 hn1
        go_wp2_with (first | (go_at_call 44; refine (space_yes _ hw _).mono ?_; rintro e w' ⟨rfl, rfl⟩) | (go_at_call 36; refine (HN.out _ HL.out HT.out).mono ?_; rintro e W2 ⟨rfl, h1, h2⟩; refine Hid.out ?_))
        refine Lib.hid ?_
        have HL2 := Lib.hid h1
        have HG2 := Lib.hid (HG.out.trans h2)
        have HT2 := Lib.hid (tabs_grown HT.out h2 hg2)
        clear h1 h2
        rcases hr4 with rfl | rfl | rfl | rfl
        all_goals clear hw
        all_goals go_wp2_with (go_at_call 35; refine (peek_any g s (pos + 1) l _ HL2.out.c2 HL2.out.c10 HR1.out hz HT2.out).mono ?_; rintro e W3 ⟨rfl, hb3⟩; refine Hid.out ?_)
        all_goals refine Lib.hid ?_
        all_goals have HL3 := Lib.hid (HL2.out.move (hb3.block g HL2.out.lt))
        all_goals have HG3 := Lib.hid (HG2.out.trans (below_grown hb3 (some g)))
        all_goals clear hb3
        all_goals go_wp2_with fail
        all_goals go_roundw
        all_goals first
          | (case rel => exact ⟨pos + 1, l, rfl, by omega, by rw [HW2.out]; go_num, by rw [HW2.out]; go_num, HR1, HL3, HG3, HW1⟩)
          | (case measure => rw [HL3.out.c10]; simp; omega)
end Go.Proofs.YtlbgmcpjdfoalaaDoor
