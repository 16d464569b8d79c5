/- The contract of laws.fodder: where it says yes the list is short and each element is as its kind says. -/
import Derived.Test.YtlbgmcpjdfoalaaElB
import Derived.Lib.QuietBelow
namespace Go.Proofs.Ytlbgmcpjdfoalaa
open Go.RowKit Go.Sort

def GoodEls (es : List El) : Prop := es.length ≤ 100 ∧ ∀ e ∈ es, elemB e = true
def FodPost (es : List El) (w : World) (e : Ending) (w' : World) : Prop := ∃ b, e = .returned (.bool b) ∧ (b = true → GoodEls es) ∧ Below w.heap.size w w'
theorem FodPost.no {es : List El} {w w' : World} (h : Below w.heap.size w w') : FodPost es w (.returned (.bool false)) w' := ⟨false, rfl, (fun h => by cases h), h⟩

theorem element_q (b : Bool) (e : El) (he : elemB e = b) (A : Option Addr) (c : Nat) (w wr : World) (hB : w.heap.size ≤ wr.heap.size) (hr : RowV wr w.heap.size (.slice A e.com.length c) (strs e.com)) (hl : e.com.length ≤ 9223372036854775807) (d : Nat) (os : Array Obj) :
    Calls Try.prog 27 #[.agg #[.int .i64 e.kind, .int .i64 e.blanks, .int .i64 e.indent, .slice A e.com.length c]] (grow (redrawn wr d) os) fun e w'' => e = .returned (.bool b) ∧ ∃ p : Regrown, w'' = grow (redrawn wr p.d) p.os := by
  subst he
  exact Calls.regrown_of (v := .bool (elemB e)) (element_any e (.slice A e.com.length c) _ w.heap.size (Nat.le_trans hB (below_regrown wr d os).size) (hr.below (below_regrown wr d os) hB) hl)
theorem follows_q (b : Bool) (x y : El) (he : follB x y = b) (cv cv' : Value) (wr : World) (d : Nat) (os : Array Obj) :
    Calls Try.prog 28 #[.agg #[.int .i64 x.kind, .int .i64 x.blanks, .int .i64 x.indent, cv], .agg #[.int .i64 y.kind, .int .i64 y.blanks, .int .i64 y.indent, cv']] (grow (redrawn wr d) os) fun e w'' => e = .returned (.bool b) ∧ ∃ p : Regrown, w'' = grow (redrawn wr p.d) p.os := by
  subst he
  exact Calls.regrown_of (v := .bool (follB x y)) (follows_any x y cv cv' _)

set_option maxHeartbeats 2000000 in
theorem lfodder_any (v : Value) (es : List El) (w : World) (h1 : ElsV w w.heap.size v es) (hl : es.length ≤ 9223372036854775807) (hc : ∀ e ∈ es, e.com.length ≤ 9223372036854775807) :
    Calls Try.prog 18 #[v] w (FodPost es w) := by
  obtain ⟨A, c, rfl⟩ := h1.form
  have H1 := Lib.hid h1
  clear h1
  go_enter Try.func18, Try.ntmps18
  go_wp2
  · go_ret; exact .no (Below.refl _ _)
  · go_loopw [3] (fun i wr => ∃ k : Nat, k ≤ es.length ∧ i = .int .i64 k ∧ Below w.heap.size w wr ∧ Hid (∀ j (hj : j < es.length), j < k → elemB (es[j]'hj) = true)) (fun i _ => es.length - (intOf i).toNat)
    case atStart => exact ⟨0, Nat.zero_le _, rfl, Below.refl _ _, Lib.hid (fun j _ hj => absurd hj (Nat.not_lt_zero j))⟩
    case round =>
      obtain ⟨k, hk, rfl, hb, hall⟩ := hrel
      by_cases hlt : k < es.length
      · obtain ⟨b, off, Ac, cc, rfl, hbB, hcv, c0, c1, c2, c3⟩ := (H1.out.below hb (Nat.le_refl _)).at_ hlt
        have hlt' : (k : Int) < (es.length : Int) := by omega
        have hlc := hc _ (List.getElem_mem hlt)
        have hsz := hb.size
        have k0 := cell_regrown c0
        have k1 := cell_regrown c1
        have k2 := cell_regrown c2
        have k3 := cell_regrown c3
        have hqb := fun d os => below_regrown wr d os
        by_cases he : elemB es[k] = true
        · have cE := element_q true es[k] he Ac cc w wr hsz hcv hlc
          rcases k with _ | j
          · simp only [Nat.zero_mul, Nat.add_zero] at k0 k1 k2 k3
            clear c0 c1 c2 c3
            go_wp2
            refine wp_region_quiet_below (by kernel_rfl) (by kernel_rfl) ?_
            repeat (go_big_quiet_step (exact cE _ _))
            refine wpQuiet_nil ?_
            intro _ hw'
            obtain ⟨⟨dq, osq⟩, hw''⟩ := hw'
            subst hw''
            go_wp2
            go_roundw
            case rel =>
              refine ⟨0 + 1, by omega, by go_num, hb.trans ((hqb _ _).mono hsz), Lib.hid (fun j' hj hjk => ?_)⟩
              by_cases e : j' = 0
              · subst e; exact he
              · exact hall.out j' hj (by omega)
            case measure => simp [intOf]; omega
          · obtain ⟨b2, off2, Ac2, cc2, hA2, hbB2, hcv2, d0, d1, d2, d3⟩ := (H1.out.below hb (Nat.le_refl _)).at_ (k := j) (by omega)
            injection hA2 with hA2
            injection hA2 with hA2 hA3
            subst hA2 hA3
            have m0 := cell_regrown d0
            have m1 := cell_regrown d1
            have m2 := cell_regrown d2
            have m3 := cell_regrown d3
            clear c0 c1 c2 c3 d0 d1 d2 d3
            by_cases hf : follB (es[j]'(by omega)) es[j + 1] = true
            · have cF := follows_q true (es[j]'(by omega)) es[j + 1] hf (.slice Ac2 (es[j]'(by omega)).com.length cc2) (.slice Ac es[j + 1].com.length cc) wr
              go_wp2
              refine wp_region_quiet_below (by kernel_rfl) (by kernel_rfl) ?_
              repeat (go_big_quiet_step (first | exact cE _ _ | exact cF _ _))
              refine wpQuiet_nil ?_
              intro _ hw'
              obtain ⟨⟨dq, osq⟩, hw''⟩ := hw'
              subst hw''
              go_wp2
              go_roundw
              case rel =>
                refine ⟨(j + 1) + 1, by omega, by go_num, hb.trans ((hqb _ _).mono hsz), Lib.hid (fun j' hj hjk => ?_)⟩
                by_cases e : j' = (j + 1)
                · subst e; exact he
                · exact hall.out j' hj (by omega)
              case measure => simp [intOf]; omega
            · have cF := follows_q false (es[j]'(by omega)) es[j + 1] (by simpa using hf) (.slice Ac2 (es[j]'(by omega)).com.length cc2) (.slice Ac es[j + 1].com.length cc) wr
              go_wp2
              refine wp_region_quiet_below (by kernel_rfl) (by kernel_rfl) ?_
              repeat (go_big_quiet_step (first | exact cE _ _ | exact cF _ _))
              refine wpQuiet_nil ?_
              intro _ hw'
              obtain ⟨⟨dq, osq⟩, hw''⟩ := hw'
              subst hw''
              go_wp2
              go_ret
              exact .no (hb.trans ((hqb _ _).mono hsz))
        · have cE := element_q false es[k] (by simpa using he) Ac cc w wr hsz hcv hlc
          clear c0 c1 c2 c3
          go_wp2
          refine wp_region_quiet_below (by kernel_rfl) (by kernel_rfl) ?_
          repeat (go_big_quiet_step (exact cE _ _))
          refine wpQuiet_nil ?_
          intro _ hw'
          obtain ⟨⟨dq, osq⟩, hw''⟩ := hw'
          subst hw''
          go_wp2
          go_ret
          exact .no (hb.trans ((hqb _ _).mono hsz))
      · go_wp2
        go_ret
        refine ⟨true, rfl, fun _ => ⟨by omega, fun e he => ?_⟩, hb⟩
        obtain ⟨j, hj, rfl⟩ := List.mem_iff_getElem.1 he
        exact hall.out j hj (by omega)
end Go.Proofs.Ytlbgmcpjdfoalaa
