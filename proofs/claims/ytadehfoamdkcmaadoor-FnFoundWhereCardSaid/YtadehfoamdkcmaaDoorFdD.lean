/- The contract of impl.chain. -/
import Derived.Test.YtadehfoamdkcmaaDoorFdB
import Derived.Test.YtadehfoamdkcmaaDoorFdC
namespace Go.Proofs.YtadehfoamdkcmaaDoor
open Go.RowKit

def ChP (es : List St) (w : World) (e : Ending) (w' : World) : Prop := ∃ v, e = .returned (.tuple #[v, .bool true]) ∧ CsV w' w'.heap.size v (es.map St.names) ∧ Below w.heap.size w w'

set_option maxRecDepth 100000 in
set_option maxHeartbeats 4000000 in
theorem ichain_any (v : Value) (es : List St) (w : World) (hr : StsV w w.heap.size v es) (hl : es.length ≤ 12) (hc : ∀ e ∈ es, e.names.length ≤ 12) (hg : Good es es.length) (hk : Kept es) :
    Calls Tryd.prog 14 #[v] w (ChP es w) := by
  obtain ⟨i0, hi0, hz0, hz1, hz2⟩ := info_parts cs_info
  obtain ⟨j0, hj0, jz0, jz1, jz2⟩ := info_parts int_info
  have H := Lib.hid hr
  have HC := Lib.hid hc
  have HG := Lib.hid hg
  have HK := Lib.hid hk
  obtain ⟨A, c, rfl⟩ := hr.form
  clear hr hc hg hk
  go_enter Tryd.func14, Tryd.ntmps14
  go_wp2
  go_loopw [4, 14] (fun v i wr => ∃ (k : Nat) (L : List C4), k ≤ es.length ∧ i = .int .i64 k ∧ wr.ownsRow w.heap.size 49 4 v L.length (flat4 L) ∧ Hid (CsL wr w.heap.size (es.take k) L) ∧ L.length = k ∧ Below w.heap.size w wr) (fun _ i _ => es.length - (intOf i).toNat)
  case atStart => exact ⟨0, [], Nat.zero_le _, rfl, World.ownsRow_nil _ _ _ _, Lib.hid (CsL.nil _ _ _), rfl, Below.refl _ _⟩
  case round =>
    obtain ⟨k, L, hk, rfl, hown, HCS, hLk, hb⟩ := hrel
    obtain ⟨A5, c5, rfl⟩ := own_form hown
    rw [hLk] at hown ⊢
    have HOW := Lib.hid hown
    have HLK := Lib.hid hLk
    clear hown hLk
    by_cases hlt : k < es.length
    · have hlt' : (k : Int) < (es.length : Int) := by omega
      have hsz := hb.size
      obtain ⟨b, off, An, cn, Ah, ch, rfl, hbB, hcn, hch, c0, c1, c2, c3⟩ := (H.out.below hb (Nat.le_refl _)).at_ hlt
      have hln := HC.out _ (List.getElem_mem hlt)
      have HG2 := Lib.hid (List.getElem?_eq_getElem hlt)
      have hgs := HG.out k _ hlt HG2.out
      have hki := HK.out k _ HG2.out
      generalize es[k] = s at *
      obtain ⟨hnh, hok⟩ := hgs
      rw [hki] at c0
      rw [← hnh] at hch c3
      have HN := Lib.hid hcn
      have HH := Lib.hid hch
      have HOK := Lib.hid hok
      have HNH := Lib.hid hnh
      have HB := Lib.hid hb
      clear hcn hch hok hnh hb hki
      go_wp2_with fail
      have hbX : Below wr.heap.size wr ((wr.alloc (.cells #[.bool false, .string s.rem, .slice An s.names.length cn, .slice Ah s.names.length ch] 30)).alloc (.cells #[.string s.rem, .slice An s.names.length cn, .slice none 0 0, .bool false] 49)) := ((Below.refl _ _).alloc (Nat.le_refl _) _).alloc (by simp) _
      have hX := heap_alloc_new (wr.alloc (.cells #[.bool false, .string s.rem, .slice An s.names.length cn, .slice Ah s.names.length ch] 30)) (.cells #[.string s.rem, .slice An s.names.length cn, .slice none 0 0, .bool false] 49)
      rw [World.size_alloc] at hX
      generalize ((wr.alloc (.cells #[.bool false, .string s.rem, .slice An s.names.length cn, .slice Ah s.names.length ch] 30)).alloc (.cells #[.string s.rem, .slice An s.names.length cn, .slice none 0 0, .bool false] 49)) = W1 at hbX hX ⊢
      obtain ⟨W0, rfl⟩ : ∃ W0, W0 = wr := ⟨_, rfl⟩
      have hW1 : W0.heap.size + 1 < W1.heap.size := (Array.getElem?_eq_some_iff.1 hX).1
      have HX := Lib.hid hX
      have HBX := Lib.hid hbX
      clear hX hbX c0 c1 c2 c3
      go_loopw [35] (fun i w2 => ∃ (j : Nat) (A1 : Option Addr) (c1 : Nat) (hs : List Int), j ≤ s.names.length ∧ i = .int .i64 j ∧ hs.length = j ∧ Hid (w2.ownsRow (W0.heap.size + 2) 3 1 (.slice A1 j c1) j (ints hs)) ∧
        Hid (w2.heap[W0.heap.size + 1]? = some (.cells #[.string s.rem, .slice An s.names.length cn, .slice A1 j c1, .bool false] 49)) ∧ Below W0.heap.size W0 w2) (fun i _ => s.names.length - (intOf i).toNat)
      case atStart => exact ⟨0, none, 0, [], Nat.zero_le _, rfl, rfl, Lib.hid (World.ownsRow_nil _ _ _ _), HX, HBX.out⟩
      case round =>
        obtain ⟨j, A1, c1, hs, hj, rfl, hhl, HO, HG1, hb2⟩ := hrel
        have hgl := (Array.getElem?_eq_some_iff.1 HG1.out).1
        have hsz2 := hb2.size
        have hne : some (W0.heap.size + 1) ≠ (Value.slice A1 j c1).ownBlock := by intro h; have := (HO.out.lt _ h.symm).1; omega
        by_cases hjl : j < s.names.length
        · have hjl' : (j : Int) < (s.names.length : Int) := by omega
          have hjh : j < s.hides.length := by have := HNH.out; omega
          obtain ⟨bh, oh, rfl, hbh, chj⟩ := (HH.out.below hb2 (by omega)).atI hjh
          have HHC := Lib.hid (fun W => hides_any _ (HOK.out j hjh) W)
          generalize s.hides[j] = h at chj HHC
          have hc0 : wr.cell? ⟨W0.heap.size + 1, 2, none⟩ = some (.slice A1 j c1) := by rw [heap_cell HG1.out]; rfl
          have hf0 := heap_free HG1.out 2
          have hc1 : ∀ o1, (wr.alloc o1).cell? ⟨W0.heap.size + 1, 2, none⟩ = some (.slice A1 j c1) := fun o1 => (((Below.refl wr.heap.size wr).alloc (Nat.le_refl _) o1).cell (p := ⟨W0.heap.size + 1, 2, none⟩) hgl).trans hc0
          have HB2 := Lib.hid hb2
          have HHL := Lib.hid hhl
          clear hb2 hhl
          go_wp2_with fail
          refine (HHC.out _).mono ?_
          rintro e wr ⟨rfl, m, rfl⟩
          go_wp2_with ((refine wpList_append_rowV _ rfl (.tmp 47) (.tmp 49) 28 rfl (W0.heap.size + 2) 3 j0 _ 1 8 Tryd.underlying28 hj0 jz0 jz1 jz2 rfl (by omega) (.slice A1 j c1) j (ints hs) rfl (HO.out.alloc _) (some ⟨wr.heap.size, 0, none⟩) 1 1 [.int .i64 m] rfl rfl (fun _ => ⟨_, rfl, news_at (by simp)⟩) (by simp [Value.oneCell']) (by unfold maxLen; omega) (by omega) (by simp; omega) ?_; intro A6 c6 w6 hap; have hfz : w6.frozen? ⟨W0.heap.size + 1, 2, none⟩ = false := ((World.frozen?_of_block (a := ⟨W0.heap.size + 1, 2, none⟩) (hap.grown.block (W0.heap.size + 1) (by simp; omega) hne)).trans ((((Below.refl wr.heap.size wr).alloc (Nat.le_refl _) _).frozen (p := ⟨W0.heap.size + 1, 2, none⟩) hgl).trans hf0)); have hcz : w6.cell? ⟨W0.heap.size + 1, 2, none⟩ = some (.slice A1 j c1) := hap.grown.cell (hc1 _) hne))
          have hb6 : Below W0.heap.size W0 w6 := (HB2.out.alloc hsz2 _).grown hap.grown (by simp; omega) (fun g hg => by have := (HO.out.lt g hg).1; omega)
          have hG6 := (hap.grown.block (W0.heap.size + 1) (by simp; omega) hne).trans (heap_after HG1.out _)
          have hown := hap.own
          rw [show ints hs ++ [Value.int .i64 m] = ints (hs ++ [m]) by simp [ints]] at hown
          have HOn := Lib.hid (ownsRow_setCell_below hown (a := ⟨W0.heap.size + 1, 2, none⟩) (by simp) (.slice A6 (j + 1) c6))
          have HGn := Lib.hid (heap_set hG6 2 (.slice A6 (j + 1) c6))
          have HBn := Lib.hid (hb6.setCell (p := ⟨W0.heap.size + 1, 2, none⟩) (by simp) (.slice A6 (j + 1) c6))
          clear hb6 hG6 hap hown hfz hcz hc1 hc0 hf0
          go_wp2_with fail
          go_roundw
          case rel => exact ⟨j + 1, A6, c6, hs ++ [m], by omega, by go_num, by simp [HHL.out], HOn, HGn, HBn.out⟩
          case measure => simp [intOf]; omega
        · obtain rfl : j = s.names.length := by omega
          have hrow0 := HOW.out.kept (grown_of_below hb2) (by cases (Value.slice A5 k c5).ownBlock <;> simp)
          have hcs0 := HCS.out.below hsz hb2
          have hnv := HN.out.below hb2 hsz
          have g0 : wr.cell? ⟨W0.heap.size + 1, 0, none⟩ = some (.string s.rem) := by rw [heap_cell HG1.out]; rfl
          have g1 : wr.cell? ⟨W0.heap.size + 1, 1, none⟩ = some (.slice An s.names.length cn) := by rw [heap_cell HG1.out]; rfl
          have g2 : wr.cell? ⟨W0.heap.size + 1, 2, none⟩ = some (.slice A1 s.names.length c1) := by rw [heap_cell HG1.out]; rfl
          have g3 : wr.cell? ⟨W0.heap.size + 1, 3, none⟩ = some (.bool false) := by rw [heap_cell HG1.out]; rfl
          have HR0 := Lib.hid hrow0
          have HCS0 := Lib.hid hcs0
          have HNV := Lib.hid hnv
          have HBW := Lib.hid (HB.out.trans (hb2.mono hsz))
          have HHL := Lib.hid hhl
          clear hrow0 hcs0 hnv hb2 hhl
          go_wp2_with (refine wpList_append_rowV _ rfl (.tmp 53) (.tmp 55) 36 rfl w.heap.size 49 i0 _ 4 72 Tryd.underlying36 hi0 hz0 hz1 hz2 rfl (by omega) (.slice A5 k c5) k (flat4 L) rfl (HR0.out.alloc _) (some ⟨wr.heap.size, 0, none⟩) 1 1 (c4 ⟨s.rem, .slice An s.names.length cn, .slice A1 s.names.length c1⟩) rfl rfl (fun _ => ⟨_, rfl, news_at (by simp)⟩) (by simp [Value.oneCell', c4]) (by unfold maxLen; omega) (by omega) (by simp; omega) ?_; intro A6 c6 w6 hap)
          have hbe : Below w.heap.size w w6 := (HBW.out.alloc (by omega) _).grown hap.grown (by simp; omega) (fun g hg => (HOW.out.lt g hg).1)
          have hown := hap.own
          rw [← flat4_snoc] at hown
          have how : w6.ownsRow w.heap.size 49 4 (.slice A6 (k + 1) c6) (L ++ [C4.mk s.rem (.slice An s.names.length cn) (.slice A1 s.names.length c1)]).length (flat4 (L ++ [C4.mk s.rem (.slice An s.names.length cn) (.slice A1 s.names.length c1)])) := by
            rw [List.length_append, HLK.out]
            exact hown
          have lower : ∀ {b0 b1 : Nat} {e : TypeId} {sz n : Nat} {u : Value} {xs : List Value} {W : World}, b1 ≤ b0 → W.ownsRow b0 e sz u n xs → W.ownsRow b1 e sz u n xs := fun hle h => ⟨h.1, h.2.imp id fun ⟨g, cap, cur, h1, h2, h3⟩ => ⟨g, cap, cur, h1, by omega, h3⟩⟩
          have hoA := HO.out.alloc (.cells #[.string s.rem, .slice An s.names.length cn, .slice A1 s.names.length c1, .bool false] 49)
          have hrA := HR0.out.alloc (.cells #[.string s.rem, .slice An s.names.length cn, .slice A1 s.names.length c1, .bool false] 49)
          have hho := lower (b1 := w.heap.size) (by omega) (hoA.kept hap.grown (own_apart hoA hrA (by decide)))
          have hcsA := (HCS0.out.below (by omega) ((Below.refl wr.heap.size wr).alloc (Nat.le_refl _) (.cells #[.string s.rem, .slice An s.names.length cn, .slice A1 s.names.length c1, .bool false] 49))).grown (by simp; omega) hap.grown (fun g hg => (HOW.out.lt g hg).1) (fun p hp => by
            obtain ⟨q, hq, rfl⟩ := List.mem_iff_getElem.1 hp
            have hql : q < (es.take k).length := by have := HCS0.out.1; omega
            obtain ⟨_, hs', _, ho'⟩ := HCS0.out.2 q _ _ (List.getElem?_eq_getElem hql) (List.getElem?_eq_getElem hq)
            exact own_apart ho' HR0.out (by decide))
          have hnvA := (HNV.out.below ((Below.refl wr.heap.size wr).alloc (Nat.le_refl _) (.cells #[.string s.rem, .slice An s.names.length cn, .slice A1 s.names.length c1, .bool false] 49)) (by omega)).keep (w' := w6) fun b o hb => ((Below.refl w.heap.size _).grown hap.grown (by simp; omega) (fun g hg => (HOW.out.lt g hg).1)).cell (p := ⟨b, o, none⟩) hb
          have hst := hcsA.step HG2.out (p := ⟨s.rem, .slice An s.names.length cn, .slice A1 s.names.length c1⟩) hnvA HHL.out (by rw [HHL.out]; exact hho)
          have HST := Lib.hid hst
          have HBE := Lib.hid hbe
          have HWW := Lib.hid how
          clear hst hnvA hcsA hho hrA hoA how hown hbe hap lower
          go_wp2_with fail
          go_roundw
          case rel => exact ⟨k + 1, _, by omega, by go_num, HWW.out, HST, by simp [HLK.out], HBE.out⟩
          case measure => simp [intOf]; omega
    · obtain rfl : k = es.length := by omega
      have hcs := HCS.out
      rw [List.take_length] at hcs
      have hrow := own_csV (L := L) hb.size (by have := HOW.out; rw [HLK.out]; exact this) hcs
      have HRW := Lib.hid hrow
      have HB := Lib.hid hb
      clear hcs hrow hb
      go_wp2_with fail
      go_ret2
      exact ⟨_, rfl, HRW.out, HB.out⟩
end Go.Proofs.YtadehfoamdkcmaaDoor
