/- The law FnTrimExact: its walk. -/
import Derived.Test.YtenibebomafdmaaDoorTrG
namespace Go.Proofs.YtenibebomafdmaaDoor
open Go.RowKit Rune

set_option maxRecDepth 100000 in
set_option maxHeartbeats 1000000 in
theorem law_any (s : ByteArray) (w : World) (hs : s.size ≤ 9223372036854775807) (hT : Lib.Utf8Tabs 0 1 w) : Calls Tryd.prog 3 #[.string s] w fun e w' => e = .returned (.bool true) ∧ Below w.heap.size w w' := by
  by_cases h1 : 2147483647 < s.size
  · have h1' : (2147483647 : Int) < (s.size : Int) := by omega
    go_enter Tryd.func3, Tryd.ntmps3
    go_wp2
    go_ret
    exact ⟨rfl, Below.refl _ _⟩
  have h1' : (s.size : Int) ≤ (2147483647 : Int) := by omega
  have HU := Lib.hid fun w => (show Calls Tryd.prog 4 #[.string s] w (U9P s w) from if h : s.size ≤ 2000 then units9_any s h w else units9_long s (by omega) hs w)
  have HT := Lib.hid hT
  clear hs h1 hT
  go_enter Tryd.func3, Tryd.ntmps3
  go_wp2_with fail
  refine (HU.out _).mono ?_
  rintro e w1 h
  rcases h with ⟨rfl, hb⟩ | ⟨v, l, rfl, hr, hll, hz, hv, hb⟩
  · go_wp2_with fail
    go_ret
    exact ⟨rfl, hb⟩
  obtain rfl : s = ofR l := ofR_of hr.all
  have HOK := Lib.hid hr.1
  have HV := Lib.hid hv
  have HB := Lib.hid hb
  clear hr hv hb
  go_wp2_with fail
  refine (trim_any v l w1 HV.out hll).mono ?_
  rintro e w2 ⟨rfl, h⟩
  rcases h with ⟨u, rfl⟩ | ⟨u, rfl, hf, hu⟩
  · go_wp2_with fail
    go_ret
    exact ⟨rfl, HB.out⟩
  have HTx := Lib.hid (textTrim_any l w2 HOK.out hf hz (Utf8Tabs_below HT.out HB.out))
  have HU2 := Lib.hid hu
  clear hf hu
  have hsz := (show (ofR l).size ≤ 2000 from hz)
  have HO := Lib.hid (fun w3 (hb3 : Below w2.heap.size w2 w3) => ofUnits_any (trim l) u w3 ((by
    obtain ⟨A, c, h1, h2, h3⟩ := HU2.out
    exact ⟨A, c, h1, h2, (h3.below hb3 (Nat.le_refl _)).more hb3.size⟩ : RowU w3 w3.heap.size u (trim l))) (fun n hn => HOK.out n (trim_sub hn)) (by have := trim_len l; omega))
  go_wp2_with fail
  refine HTx.out.mono ?_
  rintro e w3 ⟨rfl, hb3⟩
  have HO3 := Lib.hid (HO.out w3 hb3)
  have HB3 := Lib.hid (bnext HB.out hb3)
  clear hb3
  go_wp2_with fail
  refine HO3.out.mono ?_
  rintro e w4 ⟨rfl, hb4⟩
  have HB4 := Lib.hid (bnext HB3.out hb4)
  clear hb4
  go_wp2_with fail
  go_ret
  exact ⟨by simp, HB4.out⟩
end Go.Proofs.YtenibebomafdmaaDoor
