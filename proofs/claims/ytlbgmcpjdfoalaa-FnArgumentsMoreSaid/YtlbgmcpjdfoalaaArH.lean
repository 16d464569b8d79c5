/- The walk of laws.FnArgumentsMore. -/
import Derived.Test.YtlbgmcpjdfoalaaArG
import Derived.Test.YtlbgmcpjdfoalaaRowG
namespace Go.Proofs.Ytlbgmcpjdfoalaa
open Go.RowKit

def TrueB (w : World) (e : Ending) (w' : World) : Prop := e = .returned (.bool true) ∧ Below w.heap.size w w'
def qq : ByteArray := ⟨#[113, 95]⟩
theorem boo_info : (Try.prog.info? 4).map (fun i => (i.zero, i.size, i.bytes)) = some (some (.bool false), 1, 1) := by kernel_rfl
theorem str_info : (Try.prog.info? 9).map (fun i => (i.zero, i.size, i.bytes)) = some (some (.string ⟨#[]⟩), 1, 16) := by kernel_rfl

theorem own_set {w : World} {base : Nat} {e : TypeId} {A : Option Addr} {n c : Nat} {xs : List Value} (h : w.ownsRow base e 1 (.slice A n c) n xs) {k : Nat} (hk : k < n) (v : Value) :
    ∃ g, A = some ⟨g, 0, none⟩ ∧ base ≤ g ∧ g < w.heap.size ∧ w.frozen? ⟨g, k, none⟩ = false ∧ (∃ u, w.cell? ⟨g, k, none⟩ = some u) ∧ RowV (w.setCell ⟨g, k, none⟩ v) w.heap.size (.slice A n c) (xs.set k v) := by
  have hl : xs.length = n := by have := h.1; omega
  rcases h.2 with ⟨hv, h0⟩ | ⟨g, cap, cur, hv, hb, hg, _⟩
  · omega
  · injection hv with h1 h2 h3
    subst h1 h3
    have hgl := (Array.getElem?_eq_some_iff.1 hg).1
    have hcell : ∀ j u, xs[j]? = some u → w.cell? ⟨g, j, none⟩ = some u := fun j u hu => by
      have := h.cells (g := g) rfl j u hu
      rw [add_plain'] at this
      simpa using this
    have hcur : w.cell? ⟨g, k, none⟩ = some (xs[k]'(by omega)) := hcell k _ (List.getElem?_eq_getElem (by omega))
    refine ⟨g, rfl, hb, hgl, heap_free hg k, ⟨_, hcur⟩, some ⟨g, 0, none⟩, c, ?_, fun _ => ⟨g, 0, rfl, hgl, fun j u hu => ?_⟩⟩
    · exact congrArg (fun m => Value.slice (some ⟨g, 0, none⟩) m c) (by simp [hl])
    · rw [List.getElem?_set] at hu
      have e0 : 0 + j = j := by omega
      rw [e0]
      by_cases hkj : k = j
      · subst hkj
        rw [if_pos rfl, if_pos (by omega)] at hu
        injection hu with hu
        subst hu
        exact World.cell?_setCell_same w _ _ hcur
      · rw [if_neg hkj] at hu
        refine (World.cell?_setCell_other w _ _ _ (fun he => hkj (by injection he))).trans (hcell j u hu)

theorem bools_set (os : List Bool) (k : Nat) : (bools os).set k (.bool true) = bools (os.set k true) := by simp [bools, List.map_set]

set_option maxRecDepth 100000 in
set_option maxHeartbeats 4000000 in
theorem law_any (cv ov nv : Value) (wh : Int) (ps ns : List ByteArray) (os : List Bool) (w : World) (hp : RowV w w.heap.size cv (strs ps)) (ho : RowV w w.heap.size ov (bools os)) (hs : RowV w w.heap.size nv (strs ns))
    (hw0 : 0 ≤ wh) (hw1 : wh ≤ 255) (hlp : ps.length ≤ maxLen) (hlo : os.length ≤ maxLen) (hln : ns.length ≤ maxLen) (hzp : ∀ s ∈ ps, s.size ≤ maxLen) (hzn : ∀ s ∈ ns, s.size ≤ maxLen) :
    Calls Try.prog 4 #[cv, ov, nv, .int .u8 wh] w (TrueB w) := by
  obtain ⟨A1, c1, rfl⟩ := hp.form
  obtain ⟨A2, c2, rfl⟩ := ho.form'
  obtain ⟨A3, c3, rfl⟩ := hs.form
  rw [bools_len] at ho ⊢
  have HP := Lib.hid hp
  have HO := Lib.hid ho
  have HS := Lib.hid hs
  have HZP := Lib.hid hzp
  have HZN := Lib.hid hzn
  clear hp ho hs hzp hzn
  unfold maxLen at hlp hlo hln
  obtain ⟨i0, hi0, hz0, hz1, hz2⟩ := info_parts boo_info
  obtain ⟨j0, hj0, jz0, jz1, jz2⟩ := info_parts str_info
  by_cases hbig : 2147483647 < os.length
  · have hbig' : (2147483647 : Int) < (os.length : Int) := by omega
    go_enter Try.func4, Try.ntmps4
    go_wp2_with fail
    refine (fits5_any _ ps _ _ HP.out hlp).mono ?_
    rintro e w1 ⟨b, rfl, rfl⟩
    cases b <;> (go_wp2_with fail; go_ret; exact ⟨rfl, Below.refl _ _⟩)
  have hbig' : (os.length : Int) ≤ 2147483647 := by omega
  go_enter Try.func4, Try.ntmps4
  go_wp2_with fail
  refine (fits5_any _ ps _ _ HP.out hlp).mono ?_
  rintro e w1 ⟨b, rfl, rfl⟩
  cases b
  · go_wp2_with fail
    go_ret
    exact ⟨rfl, Below.refl _ _⟩
  go_wp2_with fail
  refine (fits5_any _ ns _ _ HS.out hln).mono ?_
  rintro e w1 ⟨b, rfl, rfl⟩
  cases b
  · go_wp2_with fail
    go_ret
    exact ⟨rfl, Below.refl _ _⟩
  go_wp2_with fail
  refine (calls_any _ _ ps ns _ HP.out HS.out hlp hln HZP.out HZN.out).mono ?_
  rintro e w1 ⟨b, rfl, hap, hb1⟩
  cases b
  · go_wp2_with fail
    go_ret
    exact ⟨rfl, hb1⟩
  obtain ⟨ha1, ha2⟩ := hap rfl
  have l1 := ha1.1
  have l2 := ha2.1
  have HA := Lib.hid ha1
  have HB1 := Lib.hid hb1
  clear hap ha1 ha2 hb1
  by_cases hlen : os.length = ps.length
  rotate_left
  · have hlen' : ¬(os.length : Int) = (ps.length : Int) := by omega
    go_wp2_with fail
    go_ret
    exact ⟨rfl, HB1.out⟩
  by_cases hz : ps.length = 0
  · have hz' : (ps.length : Int) = 0 := by omega
    go_wp2_with fail
    go_ret
    exact ⟨rfl, HB1.out⟩
  have hz' : ¬(ps.length : Int) = 0 := by omega
  by_cases h99 : 99 < ps.length
  · have h99' : (99 : Int) < (ps.length : Int) := by omega
    go_wp2_with fail
    go_ret
    exact ⟨rfl, HB1.out⟩
  have h99' : (ps.length : Int) ≤ 99 := by omega
  have hlen' : (os.length : Int) = (ps.length : Int) := by omega
  go_wp2_with fail
  refine (mentions_any _ ps qq _ _ (HP.out.now HB1.out) hlp).mono ?_
  rintro e w2 ⟨b, rfl, hq1, rfl⟩
  cases b
  rotate_left
  · go_wp2_with fail
    go_ret
    exact ⟨rfl, HB1.out⟩
  go_wp2_with fail
  refine (mentions_any _ ns qq _ _ (HS.out.now HB1.out) hln).mono ?_
  rintro e w2 ⟨b, rfl, hq2, rfl⟩
  cases b
  rotate_left
  · go_wp2_with fail
    go_ret
    exact ⟨rfl, HB1.out⟩
  have Q1 := Lib.hid (show qq ∉ ps by simpa using hq1)
  have Q2 := Lib.hid (show qq ∉ ns by simpa using hq2)
  have HL := Lib.hid hlen
  clear hq1 hq2 hlen hlen'
  have hsz1 := HB1.out.size
  have hown0 := World.ownsRow_made w1 #[] 0 (base := w1.heap.size) (e := 4) (size := 1) (Nat.le_refl _) (by unfold maxLen; omega) rfl
  have hsrc := (show RowV (w1.alloc (.cells #[] 4)) _ _ _ from (HO.out.now HB1.out).below ((Below.refl _ _).alloc (Nat.le_refl _) (.cells #[] 4)) (Nat.le_refl _)).src
  have hsl := hsrc.1
  have hsa := hsrc.2
  clear hsrc
  rw [HL.out] at hsa hsl
  go_wp2_with (refine wpList_append_rowV _ rfl (.tmp 54) (.tmp 55) 31 rfl w1.heap.size 4 i0 _ 1 1 Try.underlying31 hi0 hz0 hz1 hz2 rfl (by omega) (.slice (some ⟨w1.heap.size, 0, none⟩) 0 0) 0 [] rfl hown0 A2 ps.length c2 (bools os) rfl (by rw [hsl]; omega) hsa (by intro u hu; obtain ⟨x, _, rfl⟩ := List.mem_map.1 hu; rfl) (by unfold maxLen; omega) (by omega) (by simp) ?_; intro A5 c5 w2 hap; refine Hid.out ?_)
  refine Lib.hid ?_
  obtain ⟨k, hk⟩ : ∃ k : Nat, wh % (ps.length : Int) = (k : Int) := ⟨(wh % (ps.length : Int)).toNat, by have := Int.emod_nonneg wh (b := (ps.length : Int)) (by omega); omega⟩
  have hkl : k < ps.length := by have := Int.emod_lt_of_pos wh (b := (ps.length : Int)) (by omega); omega
  have hown5 := hap.own
  have hgr5 := hap.grown
  simp only [List.nil_append, Nat.zero_add] at hown5
  have hbe : Below w1.heap.size w1 w2 := ((Below.refl _ _).alloc (Nat.le_refl _) _).grown hgr5 (by simp) (fun g hg => by simp [Value.ownBlock] at hg; omega)
  clear hap hgr5 hown0 hsa hsl
  obtain ⟨g, rfl, hgb, hgl, hgf, ⟨gu, hgc⟩, hrow⟩ := own_set hown5 hkl (.bool true)
  rw [bools_set] at hrow
  have hsz2 := hbe.size
  have HROW := Lib.hid (hrow.more (B' := (w2.setCell ⟨g, k, none⟩ (.bool true)).heap.size) (by simp))
  have HB3 := Lib.hid (hbe.setCell (p := ⟨g, k, none⟩) hgb (.bool true))
  have hkl' : (k : Int) < (ps.length : Int) := by omega
  clear hrow hown5 hbe
  have hown0 := World.ownsRow_made (w2.setCell ⟨g, k, none⟩ (.bool true)) #[] 0 (base := w2.heap.size) (e := 9) (size := 1) (by simp) (by unfold maxLen; omega) rfl
  have hsrc := (show RowV ((w2.setCell ⟨g, k, none⟩ (.bool true)).alloc (.cells #[] 9)) _ _ _ from ((HP.out.now HB1.out).now HB3.out).below ((Below.refl _ _).alloc (Nat.le_refl _) (.cells #[] 9)) (Nat.le_refl _)).src
  have hsl := hsrc.1
  have hsa := hsrc.2
  clear hsrc
  go_wp2_with (refine wpList_append_rowV _ rfl (.tmp 64) (.tmp 65) 30 rfl w2.heap.size 9 j0 _ 1 16 Try.underlying30 hj0 jz0 jz1 jz2 rfl (by omega) (.slice (some ⟨w2.heap.size, 0, none⟩) 0 0) 0 [] rfl (by simpa using hown0) A1 ps.length c1 (strs ps) rfl (by rw [hsl]; omega) hsa (by intro u hu; obtain ⟨x, _, rfl⟩ := List.mem_map.1 hu; rfl) (by unfold maxLen; omega) (by omega) (by simp <;> omega) ?_; intro A6 c6 w6 hap6; refine Hid.out ?_)
  refine Lib.hid ?_
  have hown6 := hap6.own
  have hgr6 := hap6.grown
  simp only [List.nil_append, Nat.zero_add] at hown6
  have hgs6 := hgr6.size
  simp at hgs6
  have hb6 : Below w2.heap.size (w2.setCell ⟨g, k, none⟩ (.bool true)) w6 := ((Below.refl w2.heap.size _).alloc (by simp) _).grown hgr6 (by simp) (fun q hq => by simp [Value.ownBlock] at hq; omega)
  have HB6 := Lib.hid hb6
  clear hap6 hgr6 hown0 hsa hsl hb6
  go_wp2_with (refine wpList_append_rowV _ rfl (.tmp 66) (.tmp 67) 30 rfl w2.heap.size 9 j0 _ 1 16 Try.underlying30 hj0 jz0 jz1 jz2 rfl (by omega) (.slice A6 ps.length c6) ps.length (strs ps) rfl (hown6.alloc _) (some ⟨w6.heap.size, 0, none⟩) 1 1 [.string qq] rfl rfl (fun _ => ⟨_, rfl, news_at (by simp)⟩) (by simp [Value.oneCell']) (by unfold maxLen; omega) (by omega) (by simp <;> omega) ?_; intro A7 c7 w7 hap7; refine Hid.out ?_)
  refine Lib.hid ?_
  have hown7 := hap7.own
  have hgr7 := hap7.grown
  have hb7 : Below w2.heap.size (w2.setCell ⟨g, k, none⟩ (.bool true)) w7 := (HB6.out.alloc (by omega) _).grown hgr7 (by simp; omega) (fun q hq => (hown6.lt q hq).1)
  rw [show strs ps ++ [Value.string qq] = strs (ps ++ [qq]) by simp [strs]] at hown7
  have hlong := own_rowV hown7
  have hb7' : Below w.heap.size w w7 := bnext (bnext HB1.out HB3.out) (hb7.mono (by simp) : Below (w2.setCell ⟨g, k, none⟩ (.bool true)).heap.size _ _)
  have hmore : RowV w7 w7.heap.size (.slice (some ⟨g, 0, none⟩) ps.length c5) (bools (os.set k true)) := HROW.out.now (hb7.mono (by simp))
  have HLONG := Lib.hid hlong
  have HMORE := Lib.hid hmore
  have HB7 := Lib.hid hb7'
  clear hap7 hown7 hgr7 hb7 hlong hb7' hmore HB6 HROW HB3 hown6 hgc hgf HB1
  have HZL := Lib.hid (show ∀ s ∈ ps ++ [qq], s.size ≤ maxLen from fun s h => by
    rcases List.mem_append.1 h with h | h
    · exact HZP.out s h
    · simp at h; subst h; unfold maxLen; decide)
  go_wp2_with fail
  go_loopw [11] (fun i wr => ∃ n : Nat, n ≤ 3 ∧ i = .int .i64 n ∧ Below w7.heap.size w7 wr) (fun i _ => 3 - (intOf i).toNat)
  case atStart => exact ⟨0, by omega, rfl, Below.refl _ _⟩
  case round =>
    obtain ⟨n, hn, rfl, hb⟩ := hrel
    have hP := (HP.out.now HB7.out).now hb
    have hO := (HO.out.now HB7.out).now hb
    have hS := (HS.out.now HB7.out).now hb
    rw [HL.out] at hO
    have HPn := Lib.hid hP
    have HOn := Lib.hid hO
    have HSn := Lib.hid hS
    have HBn := Lib.hid (bnext HB7.out hb)
    have HBr := Lib.hid hb
    clear hP hO hS hb
    by_cases hlt : n < 3
    · have hlt' : (n : Int) < 3 := by omega
      by_cases hle : n ≤ ps.length
      · have hle' : (n : Int) ≤ (ps.length : Int) := by omega
        go_wp2_with fail
        refine (impl_any n _ _ _ ps ns os _ HPn.out HOn.out HSn.out HL.out (by omega) (by omega) (by omega) HZP.out HZN.out).mono ?_
        rintro e w8 ⟨b, rfl, hok, hb8⟩
        cases b
        · go_wp2_with fail
          go_roundw
          case rel => exact ⟨n + 1, by omega, by go_num, bnext HBr.out hb8⟩
          case measure => simp [intOf]; omega
        have HOK := Lib.hid (hok.1 rfl)
        have HB8 := Lib.hid hb8
        clear hok hb8
        go_wp2_with fail
        have hr8 := bnext HBr.out HB8.out
        refine (impl_any n _ _ _ ps ns (os.set k true) _ (HPn.out.now HB8.out) (HMORE.out.now hr8) (HSn.out.now HB8.out) (by rw [List.length_set]; exact HL.out) (by omega) (by omega) (by omega) HZP.out HZN.out).mono ?_
        rintro e w9 ⟨b, rfl, hok9, hb9⟩
        obtain rfl : b = true := hok9.2 (more_ok HOK.out k)
        have hr9 := bnext hr8 hb9
        have HR9 := Lib.hid hr9
        have HW9 := Lib.hid (bnext HB7.out hr9)
        clear hok9 hb9 hr8 HB8 hr9 HPn HOn HSn HBn HBr
        have hown0 := World.ownsRow_made w9 #[] 0 (base := w9.heap.size) (e := 4) (size := 1) (Nat.le_refl _) (by unfold maxLen; omega) rfl
        have hsrc := (show RowV (w9.alloc (.cells #[] 4)) _ _ _ from (HO.out.now HW9.out).below ((Below.refl _ _).alloc (Nat.le_refl _) (.cells #[] 4)) (Nat.le_refl _)).src
        have hsl := hsrc.1
        have hsa := hsrc.2
        clear hsrc
        rw [HL.out] at hsa hsl
        go_wp2_with (refine wpList_append_rowVg _ (by first | rfl | simp [Region.wanted, yielded]) (.tmp 93) (.tmp 94) 31 rfl w9.heap.size 4 i0 _ 1 1 Try.underlying31 hi0 hz0 hz1 hz2 rfl (by omega) (.slice (some ⟨w9.heap.size, 0, none⟩) 0 0) 0 [] rfl hown0 A2 ps.length c2 (bools os) rfl (by rw [hsl]; omega) hsa (by intro u hu; obtain ⟨x, _, rfl⟩ := List.mem_map.1 hu; rfl) (by unfold maxLen; omega) (by omega) (by simp) ?_; intro A5 c5 wA hapA; refine Hid.out ?_)
        refine Lib.hid ?_
        have hownA := hapA.own
        have hgrA := hapA.grown
        simp only [List.nil_append, Nat.zero_add] at hownA
        have hbA : Below w9.heap.size w9 wA := ((Below.refl _ _).alloc (Nat.le_refl _) _).grown hgrA (by simp) (fun q hq => by simp [Value.ownBlock] at hq; omega)
        have hszA := hbA.size
        have HBA := Lib.hid hbA
        clear hapA hgrA hown0 hsa hsl hbA
        go_wp2_with (refine wpList_append_rowVg _ (by first | rfl | simp [Region.wanted, yielded]) (.tmp 95) (.tmp 96) 31 rfl w9.heap.size 4 i0 _ 1 1 Try.underlying31 hi0 hz0 hz1 hz2 rfl (by omega) (.slice A5 ps.length c5) ps.length (bools os) rfl (hownA.alloc _) (some ⟨wA.heap.size, 0, none⟩) 1 1 [.bool true] rfl rfl (fun _ => ⟨_, rfl, news_at (by simp)⟩) (by simp [Value.oneCell']) (by unfold maxLen; omega) (by omega) (by simp <;> omega) ?_; intro A6 c6 wB hapB; refine Hid.out ?_)
        refine Lib.hid ?_
        have hownB := hapB.own
        have hgrB := hapB.grown
        rw [show bools os ++ [Value.bool true] = bools (os ++ [true]) by simp [bools]] at hownB
        have hbB : Below w9.heap.size w9 wB := (HBA.out.alloc hszA _).grown hgrB (by simp; omega) (fun q hq => (hownA.lt q hq).1)
        have HOB := Lib.hid (own_rowV hownB)
        have HRB := Lib.hid (bnext HR9.out hbB)
        clear hapB hgrB hownB hownA HBA hszA
        go_wp2_with fail
        refine (impl_any n _ _ _ (ps ++ [qq]) ns (os ++ [true]) _ (HLONG.out.now HRB.out) HOB.out ((HS.out.now HB7.out).now HRB.out) (by simp [HL.out]) (by simp; omega) (by omega) (by omega) HZL.out HZN.out).mono ?_
        rintro e wC ⟨b, rfl, hokC, hbC⟩
        obtain rfl : b = true := hokC.2 (longer_ok HOK.out HL.out)
        have HRC := Lib.hid (bnext HRB.out hbC)
        clear hokC hbC
        go_wp2_with fail
        go_roundw
        case rel => exact ⟨n + 1, by omega, by go_num, HRC.out⟩
        case measure => simp [intOf]; omega
      · have hle' : (ps.length : Int) < (n : Int) := by omega
        go_wp2_with fail
        refine (allNamed_any _ _ ps os _ HPn.out HOn.out HL.out (by omega) HZP.out HA.out).mono ?_
        rintro e w8 ⟨rfl, hb8⟩
        go_wp2_with fail
        go_ret
        exact ⟨rfl, bnext HBn.out hb8⟩
    · have hlt' : (3 : Int) ≤ (n : Int) := by omega
      go_wp2_with fail
      refine (allNamed_any _ _ ps os _ HPn.out HOn.out HL.out (by omega) HZP.out HA.out).mono ?_
      rintro e w8 ⟨rfl, hb8⟩
      go_wp2_with fail
      go_ret
      exact ⟨rfl, bnext HBn.out hb8⟩
end Go.Proofs.Ytlbgmcpjdfoalaa
