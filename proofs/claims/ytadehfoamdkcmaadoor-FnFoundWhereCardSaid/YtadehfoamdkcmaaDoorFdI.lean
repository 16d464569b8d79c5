/- The law FnFoundDeeper: what is found from a depth on, and from a deeper one on. -/
import Derived.Test.YtadehfoamdkcmaaDoorFdH
namespace Go.Proofs.YtadehfoamdkcmaaDoor
open Go.RowKit

def TrueB (w : World) (e : Ending) (w' : World) : Prop := e = .returned (.bool true) ∧ Below w.heap.size w w'
def NamesOk (es : List St) : Prop := ∀ e ∈ es, (e.rem.size ≤ maxLen ∧ e.hides.length ≤ maxLen ∧ ∀ s ∈ e.names, s.size ≤ maxLen) ∧ e.names.length ≤ maxLen

set_option maxRecDepth 100000 in
set_option maxHeartbeats 4000000 in
theorem deeper_any (v : Value) (es : List St) (a b : Int) (f : ByteArray) (w : World) (hr : StsV w w.heap.size v es) (hl : es.length ≤ maxLen) (hz : NamesOk es) (hf : f.size ≤ maxLen) (ha0 : 0 ≤ a) (ha1 : a ≤ 255) (hb0 : 0 ≤ b) (hb1 : b ≤ 255) (hT : Lib.Utf8Tabs 0 1 w) :
    Calls Tryd.prog 3 #[v, .int .u8 a, .int .u8 b, .string f] w (TrueB w) := by
  have H := Lib.hid hr
  have HZ := Lib.hid hz
  have HT := Lib.hid hT
  have HF := Lib.hid hf
  obtain ⟨A, c, rfl⟩ := hr.form
  clear hr hz hT
  unfold maxLen at hl hf
  go_enter Tryd.func3, Tryd.ntmps3
  go_wp2_with fail
  refine (fits11_any _ es _ H.out (by omega) (fun e he => by have := (HZ.out e he).2; unfold maxLen at this; omega)).mono ?_
  rintro e w1 ⟨q, rfl, h1⟩
  have H1 := Lib.hid h1
  clear h1
  cases q
  · go_wp2_with fail
    go_ret
    exact ⟨rfl, H1.out⟩
  by_cases hbig : 2147483647 < f.size
  · have hbig' : (2147483647 : Int) < (f.size : Int) := by omega
    go_wp2_with fail
    go_ret
    exact ⟨rfl, H1.out⟩
  have hbig' : ¬ (2147483647 : Int) < (f.size : Int) := by omega
  have HQ := Lib.hid (few_any _ es w1 (H.out.now H1.out) (Utf8Tabs_below HT.out H1.out) (by omega) (fun e he => (HZ.out e he).1) (fun e he => (HZ.out e he).2))
  go_wp2_with fail
  refine HQ.out.mono ?_
  rintro e w2 ⟨q, rfl, h2, hq⟩
  have H2 := Lib.hid (bnext H1.out h2)
  have HQ2 := Lib.hid hq
  clear h2 hq HQ
  cases q
  · go_wp2_with fail
    go_ret
    exact ⟨rfl, H2.out⟩
  obtain ⟨h12, hn12, hgood⟩ := HQ2.out rfl
  have HN := Lib.hid hn12
  have HG := Lib.hid hgood
  clear hn12 hgood HQ2
  go_wp2_with fail
  refine (kept_any _ es w2 (H.out.now H2.out) (by omega)).mono ?_
  rintro e w2 ⟨q, rfl, rfl, hk⟩
  cases q
  · go_wp2_with fail
    go_ret
    exact ⟨rfl, H2.out⟩
  have HK := Lib.hid (hk rfl)
  clear hk
  by_cases hal : a ≤ es.length
  · by_cases hb12 : b ≤ 12
    · have q1 : ¬ (es.length : Int) < a := by omega
      have q2 : ¬ (12 : Int) < b := by omega
      have HI := Lib.hid (fun (m : Int) (hm0 : 0 ≤ m) (hm1 : m ≤ 1000) (W : World) (hW : Below w.heap.size w W) => ifind_any _ es m f W (H.out.now hW) h12 HN.out HG.out HK.out (fun e he => (HZ.out e he).1.2.2) HF.out hm0 hm1)
      have hwa : IntKind.i64.wrap a = a := by simp [IntKind.wrap, IntKind.bits, IntKind.signed]; omega
      have hwb : IntKind.i64.wrap b = b := by simp [IntKind.wrap, IntKind.bits, IntKind.signed]; omega
      have hwab : IntKind.i64.wrap (a + b) = a + b := by simp [IntKind.wrap, IntKind.bits, IntKind.signed]; omega
      go_wp2_with fail
      refine (HI.out a ha0 (by omega) _ H2.out).mono ?_
      rintro e w3 ⟨at1, n1, rfl, hat1, h3⟩
      have HA1 := Lib.hid hat1
      have H3 := Lib.hid (bnext H2.out h3)
      clear hat1 h3
      go_wp2_with fail
      refine (HI.out (a + b) (by omega) (by omega) _ H3.out).mono ?_
      rintro e w4 ⟨at2, n2, rfl, hat2, h4⟩
      have HA2 := Lib.hid hat2
      have H4 := Lib.hid (bnext H3.out h4)
      clear hat2 h4
      by_cases hab : a + b ≤ es.length
      · have q3 : ¬ (es.length : Int) < a + b := by omega
        cases e1 : ff (objsOf (es.map St.names)) a f with
        | none =>
          have e2 := ff_none e1 (m' := a + b) (by omega)
          rw [e2]
          go_wp2_with fail
          go_ret
          exact ⟨rfl, H4.out⟩
        | some d =>
          obtain rfl : at1 = (d : Int) := HA1.out d e1
          by_cases hd : a + b ≤ (d : Int)
          · have e2 := ff_same e1 (m' := a + b) (by omega) hd
            obtain rfl : at2 = (d : Int) := HA2.out d e2
            rw [e2]
            clear e1 e2
            go_wp2_with fail
            go_ret
            exact ⟨rfl, H4.out⟩
          · have hd' : (d : Int) < a + b := by omega
            cases e2 : ff (objsOf (es.map St.names)) (a + b) f with
            | none =>
              clear e1 e2
              go_wp2_with fail
              go_ret
              exact ⟨rfl, H4.out⟩
            | some d2 =>
              have := ff_ge e2
              obtain rfl : at2 = (d2 : Int) := HA2.out d2 e2
              have hdd : (d : Int) < (d2 : Int) := by omega
              clear e1 e2
              go_wp2_with fail
              go_ret
              exact ⟨rfl, H4.out⟩
      · have q3 : (es.length : Int) < a + b := by omega
        go_wp2_with fail
        go_ret
        exact ⟨rfl, H4.out⟩
    · have q1 : ¬ (es.length : Int) < a := by omega
      have q2 : (12 : Int) < b := by omega
      go_wp2_with fail
      go_ret
      exact ⟨rfl, H2.out⟩
  · have q1 : (es.length : Int) < a := by omega
    go_wp2_with fail
    go_ret
    exact ⟨rfl, H2.out⟩
end Go.Proofs.YtadehfoamdkcmaaDoor
