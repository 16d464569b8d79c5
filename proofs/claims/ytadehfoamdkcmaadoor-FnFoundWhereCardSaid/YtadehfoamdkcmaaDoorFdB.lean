/- The contract of spec.StepsOK and of fewSteps: what true tells of the steps. -/
import Derived.Test.YtadehfoamdkcmaaDoorFdA
import Derived.Test.YtadehfoamdkcmaaDoorSh
import Derived.Lib.QuietBelow
import Derived.Deep.RegionLaw
import Derived.BigRegion
namespace Go.Proofs.YtadehfoamdkcmaaDoor
open Go.RowKit Go.Sort

/-- A step that is one. -/
def GoodSt (s : St) : Prop := s.names.length = s.hides.length ∧ ∀ k (h : k < s.hides.length), okHide s.hides[k]
def Good (es : List St) (k : Nat) : Prop := ∀ (j : Nat) (e : St), j < k → es[j]? = some e → GoodSt e
def OkP (es : List St) (w : World) (e : Ending) (w' : World) : Prop := ∃ b, e = .returned (.bool b) ∧ Below w.heap.size w w' ∧ (b = true → Good es es.length)
theorem OkP.no {es : List St} {w w' : World} (h : Below w.heap.size w w') : OkP es w (.returned (.bool false)) w' := ⟨false, rfl, h, fun h => by cases h⟩
def HidesTo (s : St) (j : Nat) : Prop := ∀ m (h : m < s.hides.length), m < j → okHide s.hides[m]

theorem valid_q (r : ByteArray) (b : Bool) (hb : Lib.validD r.data.toList = b) (hs : r.size ≤ 9223372036854775807) (wr : World) (hT : Lib.Utf8Tabs 0 1 wr) (d : Nat) (os : Array Obj) :
    Calls Tryd.prog 10 #[.string r] (grow (redrawn wr d) os) fun e w'' => e = .returned (.bool b) ∧ ∃ p : Regrown, w'' = grow (redrawn wr p.d) p.os := by
  subst hb
  exact Calls.regrown_of (v := .bool (Lib.validD r.data.toList)) (Tryd.utf8_ValidString r _ hs (Utf8Tabs_below hT (below_regrown wr d os)))

theorem Good.next {es : List St} {k : Nat} {s : St} (h : Good es k) (hs : es[k]? = some s) (hg : GoodSt s) : Good es (k + 1) := by
  intro j e hj he
  rcases Nat.lt_or_ge j k with h' | h'
  · exact h j e h' he
  · obtain rfl : j = k := by omega
    rw [hs] at he
    injection he with he
    rw [← he]
    exact hg

set_option maxRecDepth 100000 in
set_option maxHeartbeats 8000000 in
theorem stepsOK_any (v : Value) (es : List St) (w : World) (hr : StsV w w.heap.size v es) (hT : Lib.Utf8Tabs 0 1 w) (hl : es.length ≤ 12) (hc : ∀ e ∈ es, e.names.length ≤ 12)
    (hz : ∀ e ∈ es, e.rem.size ≤ maxLen ∧ e.hides.length ≤ maxLen ∧ ∀ s ∈ e.names, s.size ≤ maxLen) :
    Calls Tryd.prog 13 #[v] w (OkP es w) := by
  have H := Lib.hid hr
  have HT := Lib.hid hT
  have HC := Lib.hid hc
  have HZ := Lib.hid hz
  clear hc hz hT
  obtain ⟨A, c, rfl⟩ := hr.form
  clear hr
  go_enter Tryd.func13, Tryd.ntmps13
  go_wp2
  go_loopw [3] (fun i wr => ∃ k : Nat, k ≤ es.length ∧ i = .int .i64 k ∧ Hid (Good es k) ∧ Below w.heap.size w wr) (fun i _ => es.length - (intOf i).toNat)
  case atStart => exact ⟨0, Nat.zero_le _, rfl, Lib.hid (fun j e h => by omega), Below.refl _ _⟩
  case round =>
    obtain ⟨k, hk, rfl, HG, hb⟩ := hrel
    by_cases hlt : k < es.length
    · have hlt' : (k : Int) < (es.length : Int) := by omega
      obtain ⟨b, off, An, cn, Ah, ch, rfl, hbB, hcn, hch, c0, c1, c2, c3⟩ := (H.out.below hb (Nat.le_refl _)).at_ hlt
      have hln := HC.out _ (List.getElem_mem hlt)
      obtain ⟨hzr, hzh, hzn⟩ := HZ.out _ (List.getElem_mem hlt)
      unfold maxLen at hzr hzh
      have hzr' : (es[k].rem).size ≤ 9223372036854775807 := by omega
      have HZN := Lib.hid hzn
      have HG2 := Lib.hid (List.getElem?_eq_getElem hlt)
      have HB := Lib.hid hb
      have HN := Lib.hid hcn
      have HH := Lib.hid hch
      clear hzn hb hcn hch hzr
      have hT2 := Utf8Tabs_below HT.out HB.out
      generalize es[k] = s at *
      have k0 := cell_regrown c0
      have k1 := cell_regrown c1
      have k2 := cell_regrown c2
      have k3 := cell_regrown c3
      by_cases hnh : s.names.length = s.hides.length
      · rw [← hnh] at k3
        have HNH := Lib.hid hnh
        clear hnh c0 c1
        rw [← HNH.out] at c3
        cases hva : Lib.validD s.rem.data.toList with
        | false =>
          have cV := valid_q s.rem false hva hzr' wr hT2
          clear hva
          cases hi : s.is with
          | true =>
            rw [hi] at k0
            by_cases hn0 : 0 < s.names.length
            · have q0 : (0 : Int) < (s.names.length : Int) := by omega
              go_wp2_with fail
              refine wp_region_quiet_below (by kernel_rfl) (by kernel_rfl) ?_
              repeat (go_big_quiet_step ((with_reducible exact cV _ _)))
              refine wpQuiet_nil ?_
              intro _ hw'
              obtain ⟨⟨dq, osq⟩, hw''⟩ := hw'
              subst hw''
              have hb5 := below_regrown wr dq osq
              clear k0 k1 k2 k3 cV
              simp only at hb5 ⊢
              generalize grow (redrawn wr dq) osq = W5 at hb5 ⊢
              have HB5 := Lib.hid (HB.out.trans (hb5.mono HB.out.size))
              go_wp2_with fail
              go_ret
              exact .no HB5.out
            · have q0 : s.names.length = 0 := by omega
              rw [q0] at k2 k3
              go_wp2_with fail
              refine wp_region_quiet_below (by kernel_rfl) (by kernel_rfl) ?_
              repeat (go_big_quiet_step ((with_reducible exact cV _ _)))
              refine wpQuiet_nil ?_
              intro _ hw'
              obtain ⟨⟨dq, osq⟩, hw''⟩ := hw'
              subst hw''
              have hb5 := below_regrown wr dq osq
              clear k0 k1 k2 k3 cV
              simp only at hb5 ⊢
              generalize grow (redrawn wr dq) osq = W5 at hb5 ⊢
              have HB5 := Lib.hid (HB.out.trans (hb5.mono HB.out.size))
              go_wp2_with fail
              go_ret
              exact .no HB5.out
          | false =>
            rw [hi] at k0
            cases he : s.rem.toList.isEmpty with
            | false =>
              go_wp2_with fail
              refine wp_region_quiet_below (by kernel_rfl) (by kernel_rfl) ?_
              repeat (go_big_quiet_step ((with_reducible exact cV _ _)))
              refine wpQuiet_nil ?_
              intro _ hw'
              obtain ⟨⟨dq, osq⟩, hw''⟩ := hw'
              subst hw''
              have hb5 := below_regrown wr dq osq
              clear k0 k1 k2 k3 cV he
              simp only at hb5 ⊢
              generalize grow (redrawn wr dq) osq = W5 at hb5 ⊢
              have HB5 := Lib.hid (HB.out.trans (hb5.mono HB.out.size))
              go_wp2_with fail
              go_ret
              exact .no HB5.out
            | true =>
              go_wp2_with fail
              refine wp_region_quiet_below (by kernel_rfl) (by kernel_rfl) ?_
              repeat (go_big_quiet_step ((with_reducible exact cV _ _)))
              refine wpQuiet_nil ?_
              intro _ hw'
              obtain ⟨⟨dq, osq⟩, hw''⟩ := hw'
              subst hw''
              have hb5 := below_regrown wr dq osq
              clear k0 k1 k2 k3 cV he
              simp only at hb5 ⊢
              generalize grow (redrawn wr dq) osq = W5 at hb5 ⊢
              have HB5 := Lib.hid (HB.out.trans (hb5.mono HB.out.size))
              go_wp2_with fail
              go_ret
              exact .no HB5.out
        | true =>
          have cV := valid_q s.rem true hva hzr' wr hT2
          clear hva
          cases hi : s.is with
          | true =>
            rw [hi] at k0
            by_cases hn0 : 0 < s.names.length
            · have q0 : (0 : Int) < (s.names.length : Int) := by omega
              go_wp2_with fail
              refine wp_region_quiet_below (by kernel_rfl) (by kernel_rfl) ?_
              repeat (go_big_quiet_step ((with_reducible exact cV _ _)))
              refine wpQuiet_nil ?_
              intro _ hw'
              obtain ⟨⟨dq, osq⟩, hw''⟩ := hw'
              subst hw''
              have hb5 := below_regrown wr dq osq
              clear k0 k1 k2 k3 cV
              simp only at hb5 ⊢
              generalize grow (redrawn wr dq) osq = W5 at hb5 ⊢
              have HB5 := Lib.hid (HB.out.trans (hb5.mono HB.out.size))
              go_wp2_with fail
              go_ret
              exact .no HB5.out
            · have q0 : s.names.length = 0 := by omega
              rw [q0] at k2 k3
              go_wp2_with fail
              refine wp_region_quiet_below (by kernel_rfl) (by kernel_rfl) ?_
              repeat (go_big_quiet_step ((with_reducible exact cV _ _)))
              refine wpQuiet_nil ?_
              intro _ hw'
              obtain ⟨⟨dq, osq⟩, hw''⟩ := hw'
              subst hw''
              have hb5 := below_regrown wr dq osq
              clear k0 k1 k2 k3 cV
              simp only at hb5 ⊢
              generalize grow (redrawn wr dq) osq = W5 at hb5 ⊢
              have HB5 := Lib.hid (HB.out.trans (hb5.mono HB.out.size))
              have hc2 := (hb5.cell (p := ⟨b, off + k * 4 + 2, none⟩) (by have := HB.out.size; show b < _; omega)).trans c2
              rw [q0] at hc2
              have hgs : GoodSt s := ⟨HNH.out, fun m hm => by have := HNH.out; omega⟩
              have HG3 := Lib.hid (HG.out.next HG2.out hgs)
              clear hgs
              go_wp2_with fail
              go_loopw [4] (fun i wr => i = .int .i64 0 ∧ Below w.heap.size w wr ∧ wr.cell? ⟨b, off + k * 4 + 2, none⟩ = some (Value.slice An 0 cn)) (fun i _ => 0)
              case atStart => exact ⟨rfl, HB5.out, hc2⟩
              case round =>
                obtain ⟨rfl, hb6, hc6⟩ := hrel
                go_wp2_with fail
                go_roundw
                case rel => exact ⟨k + 1, by omega, by go_num, HG3, hb6⟩
                case measure => simp [intOf]; omega
          | false =>
            rw [hi] at k0
            cases he : s.rem.toList.isEmpty with
            | false =>
              go_wp2_with fail
              refine wp_region_quiet_below (by kernel_rfl) (by kernel_rfl) ?_
              repeat (go_big_quiet_step ((with_reducible exact cV _ _)))
              refine wpQuiet_nil ?_
              intro _ hw'
              obtain ⟨⟨dq, osq⟩, hw''⟩ := hw'
              subst hw''
              have hb5 := below_regrown wr dq osq
              clear k0 k1 k2 k3 cV he
              simp only at hb5 ⊢
              generalize grow (redrawn wr dq) osq = W5 at hb5 ⊢
              have HB5 := Lib.hid (HB.out.trans (hb5.mono HB.out.size))
              go_wp2_with fail
              go_ret
              exact .no HB5.out
            | true =>
              go_wp2_with fail
              refine wp_region_quiet_below (by kernel_rfl) (by kernel_rfl) ?_
              repeat (go_big_quiet_step ((with_reducible exact cV _ _)))
              refine wpQuiet_nil ?_
              intro _ hw'
              obtain ⟨⟨dq, osq⟩, hw''⟩ := hw'
              subst hw''
              have hb5 := below_regrown wr dq osq
              clear k0 k1 k2 k3 cV he
              simp only at hb5 ⊢
              generalize grow (redrawn wr dq) osq = W5 at hb5 ⊢
              have HB5 := Lib.hid (HB.out.trans (hb5.mono HB.out.size))
              clear hT2
              go_wp2_with fail
              have HC2 := Lib.hid c2
              have HC3 := Lib.hid c3
              obtain ⟨W0, rfl⟩ : ∃ W0, W0 = wr := ⟨_, rfl⟩
              have hsz0 := HB.out.size
              clear c2 c3
              go_loopw [4] (fun i w6 => ∃ j : Nat, j ≤ s.names.length ∧ i = .int .i64 j ∧ Hid (HidesTo s j) ∧ Below W0.heap.size W0 w6) (fun i _ => s.names.length - (intOf i).toNat)
              case atStart => exact ⟨0, Nat.zero_le _, rfl, Lib.hid (fun m hm h => by omega), hb5⟩
              case round =>
                obtain ⟨j, hj, rfl, HJ, hb6⟩ := hrel
                have d2 := (hb6.cell (p := ⟨b, off + k * 4 + 2, none⟩) (by show b < _; omega)).trans HC2.out
                have d3 := (hb6.cell (p := ⟨b, off + k * 4 + 3, none⟩) (by show b < _; omega)).trans HC3.out
                by_cases hjl : j < s.names.length
                · have hjl' : (j : Int) < (s.names.length : Int) := by omega
                  have hjh : j < s.hides.length := by have := HNH.out; omega
                  obtain ⟨bn, on, rfl, hbn, cnj⟩ := (HN.out.below hb6 (by omega)).at_ hjl
                  obtain ⟨bh, oh, rfl, hbh, chj⟩ := (HH.out.below hb6 (by omega)).atI hjh
                  have hzj := HZN.out _ (List.getElem_mem hjl)
                  unfold maxLen at hzj
                  have hzj' : s.names[j].size ≤ 9223372036854775807 := by omega
                  have HHJ := Lib.hid (show ∀ h, s.hides[j] = h → okHide h → HidesTo s (j + 1) from fun h e hh m hm hmj => by
                    rcases Nat.lt_or_ge m j with h' | h'
                    · exact HJ.out m hm h'
                    · obtain rfl : m = j := by omega
                      rw [e]
                      exact hh)
                  have HB6 := Lib.hid (HB.out.trans (hb6.mono hsz0))
                  have hT6 := Utf8Tabs_below HT.out HB6.out
                  have HT6 := Lib.hid hT6
                  clear hT6 hzj
                  by_cases hok : okHide s.hides[j]
                  · have HH1 := Lib.hid (HHJ.out _ rfl hok)
                    clear HHJ
                    have HWR := Lib.hid hb6
                    clear hb6
                    rcases hok with h0 | h0 | h0
                    all_goals
                      rw [h0] at chj
                      clear h0
                      cases hva : Lib.validD (s.names[j]).data.toList with
                      | false =>
                        go_wp2_with (go_at_call 10; refine (Tryd.utf8_ValidString s.names[j] _ hzj' HT6.out).mono ?_; rintro e w7 ⟨rfl, hb7⟩; refine Hid.out ?_)
                        refine Lib.hid ?_
                        have HB7 := Lib.hid (HB6.out.trans (hb7.mono HB6.out.size))
                        clear hb7
                        clear hva
                        go_wp2_with fail
                        go_ret
                        exact .no HB7.out
                      | true =>
                        go_wp2_with (go_at_call 10; refine (Tryd.utf8_ValidString s.names[j] _ hzj' HT6.out).mono ?_; rintro e w7 ⟨rfl, hb7⟩; refine Hid.out ?_)
                        refine Lib.hid ?_
                        have HWR7 := Lib.hid (HWR.out.trans (hb7.mono HWR.out.size))
                        clear hb7
                        clear hva cnj chj d2 d3
                        go_wp2_with fail
                        go_loopw [6] (fun i w8 => ∃ m : Nat, m ≤ j ∧ i = .int .i64 m ∧ Below W0.heap.size W0 w8) (fun i _ => j - (intOf i).toNat)
                        case atStart => exact ⟨0, Nat.zero_le _, rfl, HWR7.out⟩
                        case round =>
                          obtain ⟨m, hm, rfl, hb8⟩ := hrel
                          by_cases hmj : m < j
                          · have hmj' : (m : Int) < (j : Int) := by omega
                            have hmn : m < s.names.length := by omega
                            have hmn' : (m : Int) < (s.names.length : Int) := by omega
                            have hm0 : (0 : Int) ≤ (m : Int) := by omega
                            have hj0 : (0 : Int) ≤ (j : Int) := by omega
                            have d2 := (hb8.cell (p := ⟨b, off + k * 4 + 2, none⟩) (by show b < _; omega)).trans HC2.out
                            obtain ⟨b1, o1, hA1, _, c1⟩ := (HN.out.below hb8 (by omega)).at_ hjl
                            obtain ⟨b2, o2, hA2, _, c2⟩ := (HN.out.below hb8 (by omega)).at_ hmn
                            injection hA1 with hA1
                            injection hA1 with e1 e2 _
                            injection hA2 with hA2
                            injection hA2 with e3 e4 _
                            subst e1 e2 e3 e4
                            cases heq : (s.names[m].toList == s.names[j].toList) with
                            | true =>
                              go_wp2_with fail
                              go_quiet (fail)
                              rename_i nq
                              go_wp2_with fail
                              go_ret
                              exact .no (HB.out.trans ((below_drewN hb8 _).mono hsz0))
                            | false =>
                              go_wp2_with fail
                              go_quiet (fail)
                              rename_i nq
                              go_wp2_with fail
                              go_roundw
                              case rel => exact ⟨m + 1, by omega, by go_num, below_drewN hb8 _⟩
                              case measure => simp [intOf]; omega
                          · obtain rfl : m = j := by omega
                            go_wp2_with fail
                            go_roundw
                            case rel => exact ⟨m + 1, by omega, by go_num, HH1, hb8⟩
                            case measure => simp [intOf]; omega
                  · obtain ⟨h, he⟩ : ∃ h, s.hides[j] = h := ⟨_, rfl⟩
                    rw [he] at chj hok
                    unfold okHide at hok
                    have z0 : ¬ h = 0 := fun e => hok (.inl e)
                    have z1 : ¬ h = 1 := fun e => hok (.inr (.inl e))
                    have z2 : ¬ h = 2 := fun e => hok (.inr (.inr e))
                    have y0 : (h != 0) = true := by simp [z0]
                    have y1 : (h != 1) = true := by simp [z1]
                    have y2 : (h != 2) = true := by simp [z2]
                    clear hok HHJ he hb6
                    go_wp2_with fail
                    go_ret
                    exact .no HB6.out
                · obtain rfl : j = s.names.length := by omega
                  have hgs : GoodSt s := ⟨HNH.out, fun m hm => HJ.out m hm (by have := HNH.out; omega)⟩
                  have HG3 := Lib.hid (HG.out.next HG2.out hgs)
                  clear hgs
                  have HB6 := Lib.hid (HB.out.trans (hb6.mono hsz0))
                  clear hb6
                  go_wp2_with fail
                  go_roundw
                  case rel => exact ⟨k + 1, by omega, by go_num, HG3, HB6.out⟩
                  case measure => simp [intOf]; omega
      · have q1 : ((s.names.length : Int) != (s.hides.length : Int)) = true := by simp; omega
        clear c0 c1 c2 c3
        cases hva : Lib.validD s.rem.data.toList with
        | false =>
          have cV := valid_q s.rem false hva hzr' wr hT2
          clear hva
          go_wp2_with fail
          refine wp_region_quiet_below (by kernel_rfl) (by kernel_rfl) ?_
          repeat (go_big_quiet_step ((with_reducible exact cV _ _)))
          refine wpQuiet_nil ?_
          intro _ hw'
          obtain ⟨⟨dq, osq⟩, hw''⟩ := hw'
          subst hw''
          have hb5 := below_regrown wr dq osq
          clear k0 k1 k2 k3 cV
          simp only at hb5 ⊢
          generalize grow (redrawn wr dq) osq = W5 at hb5 ⊢
          have HB5 := Lib.hid (HB.out.trans (hb5.mono HB.out.size))
          go_wp2_with fail
          go_ret
          exact .no HB5.out
        | true =>
          have cV := valid_q s.rem true hva hzr' wr hT2
          clear hva
          go_wp2_with fail
          refine wp_region_quiet_below (by kernel_rfl) (by kernel_rfl) ?_
          repeat (go_big_quiet_step ((with_reducible exact cV _ _)))
          refine wpQuiet_nil ?_
          intro _ hw'
          obtain ⟨⟨dq, osq⟩, hw''⟩ := hw'
          subst hw''
          have hb5 := below_regrown wr dq osq
          clear k0 k1 k2 k3 cV
          simp only at hb5 ⊢
          generalize grow (redrawn wr dq) osq = W5 at hb5 ⊢
          have HB5 := Lib.hid (HB.out.trans (hb5.mono HB.out.size))
          go_wp2_with fail
          go_ret
          exact .no HB5.out
    · obtain rfl : k = es.length := by omega
      have HB := Lib.hid hb
      clear hb
      go_wp2_with fail
      go_ret
      exact ⟨true, rfl, HB.out, fun _ => HG.out⟩

def FewP (es : List St) (w : World) (e : Ending) (w' : World) : Prop := ∃ b, e = .returned (.bool b) ∧ Below w.heap.size w w' ∧ (b = true → es.length ≤ 12 ∧ (∀ e ∈ es, e.names.length ≤ 12) ∧ Good es es.length)
set_option maxRecDepth 100000 in
set_option maxHeartbeats 1000000 in
theorem few_any (v : Value) (es : List St) (w : World) (hr : StsV w w.heap.size v es) (hT : Lib.Utf8Tabs 0 1 w) (hl : es.length ≤ 9223372036854775807)
    (hz : ∀ e ∈ es, e.rem.size ≤ maxLen ∧ e.hides.length ≤ maxLen ∧ ∀ s ∈ e.names, s.size ≤ maxLen) (hc : ∀ e ∈ es, e.names.length ≤ maxLen) :
    Calls Tryd.prog 7 #[v] w (FewP es w) := by
  have H := Lib.hid hr
  have HT := Lib.hid hT
  have HC := Lib.hid hc
  have HZ := Lib.hid hz
  clear hc hz hT
  obtain ⟨A, c, rfl⟩ := hr.form
  clear hr
  go_enter Tryd.func7, Tryd.ntmps7
  go_wp2
  go_loop [3] (fun i => ∃ k : Nat, k ≤ es.length ∧ i = .int .i64 k ∧ Hid (∀ (j : Nat) (e : St), j < k → es[j]? = some e → e.names.length ≤ 12)) (fun i => es.length - (intOf i).toNat)
  case atStart => exact ⟨0, Nat.zero_le _, rfl, Lib.hid (fun j e h => by omega)⟩
  case round =>
    obtain ⟨k, hk, rfl, HG⟩ := hrel
    by_cases hlt : k < es.length
    · have hlt' : (k : Int) < (es.length : Int) := by omega
      obtain ⟨b, off, An, cn, Ah, ch, rfl, hbB, hcn, hch, c0, c1, c2, c3⟩ := H.out.at_ hlt
      have hln := HC.out _ (List.getElem_mem hlt)
      unfold maxLen at hln
      have HG2 := Lib.hid (List.getElem?_eq_getElem hlt)
      clear hcn hch c0 c1 c3
      generalize es[k] = s at *
      by_cases h12 : s.names.length ≤ 12
      · have q : (s.names.length : Int) ≤ 12 := by omega
        have HG3 := Lib.hid (show ∀ (j : Nat) (e : St), j < k + 1 → es[j]? = some e → e.names.length ≤ 12 from fun j e hj he => by
          rcases Nat.lt_or_ge j k with h' | h'
          · exact HG.out j e h' he
          · obtain rfl : j = k := by omega
            rw [HG2.out] at he
            injection he with he
            rw [← he]
            exact h12)
        go_wp2_with fail
        go_round
        case rel => exact ⟨k + 1, by omega, by go_num, HG3⟩
        case measure => simp [intOf]; omega
      · have q : (12 : Int) < (s.names.length : Int) := by omega
        go_wp2_with fail
        go_ret
        exact ⟨false, rfl, Below.refl _ _, fun h => by cases h⟩
    · obtain rfl : k = es.length := by omega
      have HN := Lib.hid (show ∀ e ∈ es, e.names.length ≤ 12 from fun e he => by
        obtain ⟨j, hj, rfl⟩ := List.mem_iff_getElem.1 he
        exact HG.out j _ hj (List.getElem?_eq_getElem hj))
      by_cases h12 : es.length ≤ 12
      · have q : (es.length : Int) ≤ 12 := by omega
        go_wp2_with (go_at_call 13; refine (stepsOK_any _ es _ H.out HT.out h12 HN.out HZ.out).mono ?_; rintro e w7 ⟨b, rfl, hb7, hg⟩)
        have HB := Lib.hid hb7
        have HGG := Lib.hid hg
        clear hb7 hg
        go_ret
        exact ⟨b, rfl, HB.out, fun h => ⟨h12, HN.out, HGG.out h⟩⟩
      · have q : (12 : Int) < (es.length : Int) := by omega
        go_wp2_with fail
        go_ret
        exact ⟨false, rfl, Below.refl _ _, fun h => by cases h⟩
end Go.Proofs.YtadehfoamdkcmaaDoor
