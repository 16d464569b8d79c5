/- The walk of laws.FnCommaTaken. -/
import Derived.Test.YtlbgmcpjdfoalaaComC
namespace Go.Proofs.Ytlbgmcpjdfoalaa
open Go.RowKit

set_option maxRecDepth 100000 in
set_option maxHeartbeats 2000000 in
theorem commaLaw_any (va vb : Value) (cm : Bool) (la lb : List El) (w : World) (ha : ElsV w w.heap.size va la) (hb : ElsV w w.heap.size vb lb) (hla : la.length ≤ 9223372036854775807) (hlb : lb.length ≤ 9223372036854775807)
    (hca : ∀ e ∈ la, e.com.length ≤ 9223372036854775807) (hcb : ∀ e ∈ lb, e.com.length ≤ 9223372036854775807) :
    Calls Try.prog 3 #[va, .bool cm, vb] w (BoolB true w) := by
  have HA := Lib.hid ha
  have HB := Lib.hid hb
  have CA := Lib.hid hca
  have CB := Lib.hid hcb
  obtain ⟨A, c, rfl⟩ := ha.form
  obtain ⟨A', c', rfl⟩ := hb.form
  clear ha hb hca hcb
  go_enter Try.func3, Try.ntmps3
  go_wp2_with fail
  refine (fits7_all _ la _ HA.out hla CA.out).mono ?_
  rintro e w1 ⟨b1, rfl, hs1, hb1⟩
  cases b1
  · go_wp2
    go_ret; exact ⟨rfl, hb1⟩
  have SA := Lib.hid (hs1 rfl)
  clear hs1
  go_wp2_with fail
  refine (fits7_all _ lb _ ((HB.out.below hb1 (Nat.le_refl _)).mono_ hb1.size) hlb CB.out).mono ?_
  rintro e w2 ⟨b2, rfl, hs2, hb2⟩
  have q2 : Below w.heap.size w w2 := hb1.trans (hb2.mono hb1.size)
  clear hb1 hb2
  cases b2
  · go_wp2
    go_ret; exact ⟨rfl, q2⟩
  have SB := Lib.hid (hs2 rfl)
  clear hs2
  go_wp2_with fail
  refine (plain_any _ la _ ((HA.out.below q2 (Nat.le_refl _)).mono_ q2.size) hla SA.out).mono ?_
  rintro e w3 ⟨b3, rfl, hg3, hb3⟩
  have q3 : Below w.heap.size w w3 := q2.trans (hb3.mono q2.size)
  clear hb3 q2
  cases b3
  · go_wp2
    go_ret; exact ⟨rfl, q3⟩
  have GA := Lib.hid (hg3 rfl)
  clear hg3
  go_wp2_with fail
  refine (plain_any _ lb _ ((HB.out.below q3 (Nat.le_refl _)).mono_ q3.size) hlb SB.out).mono ?_
  rintro e w4 ⟨b4, rfl, hg4, hb4⟩
  have q4 : Below w.heap.size w w4 := q3.trans (hb4.mono q3.size)
  clear hb4 q3
  cases b4
  · go_wp2
    go_ret; exact ⟨rfl, q4⟩
  have GB := Lib.hid (hg4 rfl)
  clear hg4
  go_wp2_with fail
  · go_ret; exact ⟨rfl, q4⟩
  · go_ret; exact ⟨rfl, q4⟩
  refine (dullx_any _ _ la lb _ _ ((HA.out.below q4 (Nat.le_refl _)).mono_ q4.size) ((HB.out.below q4 (Nat.le_refl _)).mono_ q4.size) hla hlb).mono ?_
  rintro e w5 ⟨b5, rfl, hnd, rfl⟩
  cases b5
  rotate_left
  · go_wp2
    go_ret; exact ⟨rfl, q4⟩
  have ND := Lib.hid (hnd rfl)
  clear hnd
  cases cm
  · go_wp2_with fail
    · go_ret; exact ⟨rfl, q4⟩
    · have HC : Hid (false = true ∨ la = []) := Lib.hid (.inr (List.length_eq_zero_iff.1 (by omega)))
      refine (itaken_any _ _ false la lb _ ((HA.out.below q4 (Nat.le_refl _)).mono_ q4.size) ((HB.out.below q4 (Nat.le_refl _)).mono_ q4.size) GA.out GB.out ND.out HC.out).mono ?_
      rintro e w6 ⟨v6', v6, rfl, hn6, ho6, hb6⟩
      have q6 : Below w.heap.size w w6 := q4.trans (hb6.mono q4.size)
      clear hb6 q4
      obtain ⟨A6, c6, rfl⟩ := ho6.form
      obtain ⟨A6', c6', rfl⟩ := hn6.form
      have HO6 := Lib.hid ho6
      clear ho6 hn6
      go_wp2_with fail
      refine (iconc_any _ _ la lb _ ((HA.out.below q6 (Nat.le_refl _)).mono_ q6.size) ((HB.out.below q6 (Nat.le_refl _)).mono_ q6.size) GA.out GB.out ND.out).mono ?_
      rintro e w7 ⟨v7, rfl, ho7, hb7⟩
      have q7 : Below w.heap.size w w7 := q6.trans (hb7.mono q6.size)
      obtain ⟨A7, c7, rfl⟩ := ho7.form
      have HO6' := Lib.hid (HO6.out.below hb7).readE
      have HO7 := Lib.hid ho7.readE
      have hcs := Lib.hid (conc_small GA.out GB.out)
      have hl := hcs.out.1
      have hc0 : Hid (∀ e ∈ concF la lb, e.com.length ≤ 9223372036854775807) := Lib.hid fun e he => by have := hcs.out.2 e he; omega
      clear hb7 q6 HO6 ho7 hcs
      generalize concF la lb = cl at *
      go_wp2_with fail
      refine (sameFod_any _ _ cl _ HO6'.out HO7.out (by omega) hc0.out).mono ?_
      rintro e w8 ⟨rfl, hb8⟩
      go_wp2
      go_ret
      exact ⟨rfl, q7.trans (hb8.mono q7.size)⟩
  · go_wp2_with fail
    refine (itaken_any _ _ true la lb _ ((HA.out.below q4 (Nat.le_refl _)).mono_ q4.size) ((HB.out.below q4 (Nat.le_refl _)).mono_ q4.size) GA.out GB.out ND.out (.inl rfl)).mono ?_
    rintro e w6 ⟨v6', v6, rfl, hn6, ho6, hb6⟩
    have q6 : Below w.heap.size w w6 := q4.trans (hb6.mono q4.size)
    clear hb6 q4
    obtain ⟨A6, c6, rfl⟩ := ho6.form
    obtain ⟨A6', c6', rfl⟩ := hn6.form
    have HO6 := Lib.hid ho6
    clear ho6 hn6
    go_wp2_with fail
    refine (iconc_any _ _ la lb _ ((HA.out.below q6 (Nat.le_refl _)).mono_ q6.size) ((HB.out.below q6 (Nat.le_refl _)).mono_ q6.size) GA.out GB.out ND.out).mono ?_
    rintro e w7 ⟨v7, rfl, ho7, hb7⟩
    have q7 : Below w.heap.size w w7 := q6.trans (hb7.mono q6.size)
    obtain ⟨A7, c7, rfl⟩ := ho7.form
    have HO6' := Lib.hid (HO6.out.below hb7).readE
    have HO7 := Lib.hid ho7.readE
    have hcs := Lib.hid (conc_small GA.out GB.out)
    have hl := hcs.out.1
    have hc0 : Hid (∀ e ∈ concF la lb, e.com.length ≤ 9223372036854775807) := Lib.hid fun e he => by have := hcs.out.2 e he; omega
    clear hb7 q6 HO6 ho7 hcs
    generalize concF la lb = cl at *
    go_wp2_with fail
    refine (sameFod_any _ _ cl _ HO6'.out HO7.out (by omega) hc0.out).mono ?_
    rintro e w8 ⟨rfl, hb8⟩
    go_wp2
    go_ret
    exact ⟨rfl, q7.trans (hb8.mono q7.size)⟩
end Go.Proofs.Ytlbgmcpjdfoalaa
