/- The contracts of PartFind and impl.Find; the plain laws of what is found. -/
import Derived.Test.YtadehfoamdkcmaaDoorFdD
import Derived.Test.YtadehfoamdkcmaaDoorFdF
import Derived.Test.YtadehfoamdkcmaaDoorFdG
namespace Go.Proofs.YtadehfoamdkcmaaDoor
open Go.RowKit

def PfP (l : List (List ByteArray)) (m : Int) (f : ByteArray) (w : World) (e : Ending) (w' : World) : Prop :=
  ∃ at_ n, e = .returned (.tuple #[.bool (ff l m f).isSome, .int .i64 at_, .int .i64 n]) ∧ (∀ d, ff l m f = some d → at_ = (d : Int)) ∧ Below w.heap.size w w'

set_option maxRecDepth 100000 in
set_option maxHeartbeats 2000000 in
theorem part_any (v : Value) (es : List (List ByteArray)) (m : Int) (f : ByteArray) (w : World) (hr : CsV w w.heap.size v es) (hl : es.length ≤ 12) (hc : ∀ ns ∈ es, ns.length ≤ 12) (hz : ∀ ns ∈ es, ∀ s ∈ ns, s.size ≤ maxLen) (hf : f.size ≤ maxLen) (hm0 : 0 ≤ m) (hm1 : m ≤ 1000) :
    Calls Tryd.prog 15 #[v, .int .i64 m, .string f] w (PfP (objsOf es) m f w) := by
  have hol := objsOf_len es
  have HC := Lib.hid (chain_any v es w hr hl hc hz)
  clear hr hc hz
  go_enter Tryd.func15, Tryd.ntmps15
  go_wp2_with fail
  refine HC.out.mono ?_
  rintro e w1 ⟨g, u, rfl, hu, ho, hb1⟩
  obtain ⟨T, q, rfl, hT⟩ := ho.size
  have HF := Lib.hid (find_any f hf _ _ m w1 ho (by omega) (by omega) hm1)
  have HO := Lib.hid ho
  have HB1 := Lib.hid hb1
  have HT := Lib.hid hT
  clear ho hb1 hT
  go_wp2_with fail
  refine HF.out.mono ?_
  rintro e w2 ⟨h, at_, rfl, hat, ha0, ha1, hb2⟩
  have HAT := Lib.hid hat
  have HB2 := Lib.hid (bnext HB1.out hb2)
  have HBB := Lib.hid hb2
  clear hat ha0 ha1 hb2
  have HB3 := Lib.hid (HB2.out.alloc HB2.out.size (.cells #[.nilIface, .int .i64 h] 67))
  rcases HT.out with ⟨rfl, _⟩ | ⟨rfl, hc⟩
  · have ms : ∀ w, (method 352 86 (.pointer (some ⟨q, 0, none⟩)) "given.example/pub-rondel/pub/jsonnet.inheritanceSize").run Tryd.prog w = .ok (72, .pointer (some ⟨q, 0, none⟩)) w := fun w => by kernel_rfl
    go_wp2_with (go_at_call 72; refine (size72_any _ _).mono ?_; rintro e w' ⟨rfl, rfl⟩)
    refine bodyPost_ret (v := .tuple #[.bool (ff (objsOf es) m f).isSome, .int .i64 at_, .int .i64 1]) (by simp [results, Tryd.results15, go_sem]) rfl ?_
    exact ⟨at_, _, rfl, HAT.out, HB3.out⟩
  · have ms : ∀ w, (method 352 83 (.pointer (some ⟨q, 0, none⟩)) "given.example/pub-rondel/pub/jsonnet.inheritanceSize").run Tryd.prog w = .ok (71, .pointer (some ⟨q, 0, none⟩)) w := fun w => by kernel_rfl
    have hc2 := (((HBB.out.alloc HBB.out.size (.cells #[.nilIface, .int .i64 h] 67))).cell (p := ⟨q, 2, none⟩) (lt_of_cell hc)).trans hc
    have HC2 := Lib.hid hc2
    clear hc hc2
    go_wp2_with (go_at_call 71; refine (size71_any q _ _ HC2.out).mono ?_; rintro e w' ⟨rfl, rfl⟩)
    refine bodyPost_ret (v := .tuple #[.bool (ff (objsOf es) m f).isSome, .int .i64 at_, .int .i64 ((objsOf es).length : Nat)]) (by simp [results, Tryd.results15, go_sem]) rfl ?_
    exact ⟨at_, _, rfl, HAT.out, HB3.out⟩

def FiP (l : List (List ByteArray)) (m : Int) (f : ByteArray) (w : World) (e : Ending) (w' : World) : Prop :=
  ∃ at_ n, e = .returned (.tuple #[.bool (ff l m f).isSome, .int .i64 at_, .int .i64 n, .bool true]) ∧ (∀ d, ff l m f = some d → at_ = (d : Int)) ∧ Below w.heap.size w w'

set_option maxRecDepth 100000 in
set_option maxHeartbeats 2000000 in
theorem ifind_any (v : Value) (es : List St) (m : Int) (f : ByteArray) (w : World) (hr : StsV w w.heap.size v es) (hl : es.length ≤ 12) (hc : ∀ e ∈ es, e.names.length ≤ 12) (hg : Good es es.length) (hk : Kept es) (hz : ∀ e ∈ es, ∀ s ∈ e.names, s.size ≤ maxLen) (hf : f.size ≤ maxLen) (hm0 : 0 ≤ m) (hm1 : m ≤ 1000) :
    Calls Tryd.prog 9 #[v, .int .i64 m, .string f] w (FiP (objsOf (es.map St.names)) m f w) := by
  have HC := Lib.hid (ichain_any v es w hr hl hc hg hk)
  have HP := Lib.hid (fun v2 W (h : CsV W W.heap.size v2 (es.map St.names)) => part_any v2 (es.map St.names) m f W h (by rw [List.length_map]; exact hl) (by
    intro ns hns
    obtain ⟨e, he, rfl⟩ := List.mem_map.1 hns
    exact hc e he) (by
    intro ns hns
    obtain ⟨e, he, rfl⟩ := List.mem_map.1 hns
    exact hz e he) hf hm0 hm1)
  clear hr hc hg hk hz
  go_enter Tryd.func9, Tryd.ntmps9
  go_wp2_with fail
  refine HC.out.mono ?_
  rintro e w1 ⟨v2, rfl, hcs, hb1⟩
  have HP2 := Lib.hid (HP.out v2 w1 hcs)
  have HB1 := Lib.hid hb1
  clear hcs hb1
  go_wp2_with fail
  refine HP2.out.mono ?_
  rintro e w2 ⟨at_, n, rfl, hat, hb2⟩
  have HAT := Lib.hid hat
  have HB2 := Lib.hid (bnext HB1.out hb2)
  clear hat hb2
  cases hs : (ff (objsOf (es.map St.names)) m f).isSome with
  | true =>
    have HS := Lib.hid hs
    clear hs
    go_wp2_with fail
    refine bodyPost_ret (v := .tuple #[.bool true, .int .i64 at_, .int .i64 n, .bool true]) (by simp [results, Tryd.results9, go_sem]) rfl ?_
    exact ⟨at_, n, by rw [HS.out], HAT.out, HB2.out⟩
  | false =>
    have HS := Lib.hid hs
    clear hs
    go_wp2_with fail
    refine bodyPost_ret (v := .tuple #[.bool false, .int .i64 0, .int .i64 n, .bool true]) (by simp [results, Tryd.results9, go_sem]) rfl ?_
    exact ⟨0, n, by rw [HS.out], (fun d hd => by have := HS.out; rw [hd] at this; cases this), HB2.out⟩

/-! ### plain laws -/
theorem ff_ge : ∀ {l : List (List ByteArray)} {m : Int} {f : ByteArray} {d : Nat}, ff l m f = some d → m ≤ (d : Int)
  | [], m, f, d, h => by simp [ff] at h
  | ns :: l, m, f, d, h => by
    by_cases hc : m ≤ 0 ∧ f ∈ ns
    · have := hc.1; omega
    · rw [simp_none hc] at h
      obtain ⟨d', hd, rfl⟩ := Option.map_eq_some_iff.1 h
      have := ff_ge hd
      omega
theorem ff_same : ∀ {l : List (List ByteArray)} {m m' : Int} {f : ByteArray} {d : Nat}, ff l m f = some d → m ≤ m' → m' ≤ (d : Int) → ff l m' f = some d
  | [], m, m', f, d, h, _, _ => by simp [ff] at h
  | ns :: l, m, m', f, d, h, h1, h2 => by
    by_cases hc : m ≤ 0 ∧ f ∈ ns
    · rw [simp_some hc] at h
      injection h with h
      rw [simp_some ⟨by omega, hc.2⟩, h]
    · rw [simp_none hc] at h
      obtain ⟨d', hd, rfl⟩ := Option.map_eq_some_iff.1 h
      by_cases hc' : m' ≤ 0 ∧ f ∈ ns
      · exact absurd ⟨by omega, hc'.2⟩ hc
      · rw [simp_none hc', ff_same hd (m' := m' - 1) (by omega) (by omega)]
        rfl
theorem ff_none : ∀ {l : List (List ByteArray)} {m m' : Int} {f : ByteArray}, ff l m f = none → m ≤ m' → ff l m' f = none
  | [], m, m', f, _, _ => by simp [ff]
  | ns :: l, m, m', f, h, h1 => by
    by_cases hc : m ≤ 0 ∧ f ∈ ns
    · rw [simp_some hc] at h; cases h
    · rw [simp_none hc] at h
      have hd : ff l (m - 1) f = none := by simpa using h
      have hc' : ¬(m' ≤ 0 ∧ f ∈ ns) := fun h' => hc ⟨by omega, h'.2⟩
      rw [simp_none hc', ff_none hd (m' := m' - 1) (by omega)]
      rfl
end Go.Proofs.YtadehfoamdkcmaaDoor
