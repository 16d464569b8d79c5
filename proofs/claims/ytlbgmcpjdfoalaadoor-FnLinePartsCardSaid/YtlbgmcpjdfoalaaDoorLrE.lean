/- The lexer: peek, white space. -/
import Derived.Test.YtlbgmcpjdfoalaaDoorLrD
import Derived.Lib.QuietBelow
namespace Go.Proofs.YtlbgmcpjdfoalaaDoor
open Go.RowKit Go.Sort Rune

theorem heap_cell {w : World} {g : Nat} {C : Array Value} {T : TypeId} {fr : Nat × Nat} (h : w.heap[g]? = some (.cells C T fr)) (j : Nat) : w.cell? ⟨g, j, none⟩ = C[j]? := by
  unfold World.cell?; rw [h]; rfl
theorem heap_free {w : World} {g : Nat} {C : Array Value} {T : TypeId} (h : w.heap[g]? = some (.cells C T (0, 0))) (j : Nat) : w.frozen? ⟨g, j, none⟩ = false := by
  unfold World.frozen?; rw [h]; simp
theorem heap_set {w : World} {g : Nat} {C : Array Value} {T : TypeId} {fr : Nat × Nat} (h : w.heap[g]? = some (.cells C T fr)) (k : Nat) (v : Value) : (w.setCell ⟨g, k, none⟩ v).heap[g]? = some (.cells (C.setIfInBounds k v) T fr) := by
  unfold World.setCell
  rw [Array.getElem?_modify, if_pos rfl, h]
  simp

def headV (l : List Nat) : Int := match l with | [] => -1 | r :: _ => r
def PeekP (l : List Nat) (w : World) (e : Ending) (w' : World) : Prop := e = .returned (.int .i32 (headV l)) ∧ Below w.heap.size w w'

theorem decode_q {s : ByteArray} {pos r : Nat} {l : List Nat} (hR : Rem s pos (r :: l)) (w : World) (hT : Lib.Utf8Tabs 1 2 w) (d : Nat) (os : Array Obj) :
    Calls Tryd.prog 43 #[.string (s.extract pos s.size)] (grow (redrawn w d) os) fun e w'' => e = .returned (.tuple #[.int .i32 r, .int .i64 (encB r).length]) ∧ ∃ p : Regrown, w'' = grow (redrawn w p.d) p.os := by
  obtain ⟨hp, hrem, hlt⟩ := hR.head
  have hs : (s.extract pos s.size).size = s.size - pos := by rw [← size_list, ext_list]; simp
  have hd : Lib.decodeGo (s.extract pos s.size) = (r, (encB r).length) := by
    unfold Lib.decodeGo
    rw [if_neg (by omega)]
    refine decode_at hp.1 fun k x hx => ?_
    rw [ext_list, List.getElem?_take_of_lt (by
      have := (List.getElem?_eq_some_iff.1 hx).1
      have := hrem.1
      omega), List.getElem?_drop, Nat.zero_add]
    exact hp.2.2 k x hx
  have hT2 : Lib.Utf8Tabs 1 2 (grow (redrawn w d) os) := Utf8Tabs_below hT (below_regrown w d os)
  refine Calls.regrown_of ?_
  have := Tryd.utf8_DecodeRuneInString (s.extract pos s.size) (grow (redrawn w d) os) hT2
  simp only [hd] at this
  exact this

set_option maxRecDepth 100000 in
set_option maxHeartbeats 1000000 in
theorem peek_any (g : Nat) (s : ByteArray) (pos : Nat) (l : List Nat) (w : World) (k2 : w.cell? ⟨g, 2, none⟩ = some (.string s)) (k10 : w.cell? ⟨g, 10, none⟩ = some (.int .i64 pos)) (hR : Rem s pos l) (_hz : s.size ≤ 2000) (hT : Lib.Utf8Tabs 1 2 w) :
    Calls Tryd.prog 35 #[.pointer (some ⟨g, 0, none⟩)] w (PeekP l w) := by
  have hps := hR.1
  cases l with
  | nil =>
    have hpe := hR.nil_end
    have hge : (s.size : Int) ≤ (pos : Int) := by omega
    clear hpe hR hT
    go_enter Tryd.func35, Tryd.ntmps35
    go_wp2_with fail
    go_quiet (fail)
    go_wp2_with fail
    go_ret
    exact ⟨rfl, rfl, rfl, rfl, Nat.le_refl _, fun _ _ => rfl⟩
  | cons r l =>
    have hlt := hR.head.2.2
    have hlt' : (pos : Int) < (s.size : Int) := by omega
    have HR := Lib.hid hR
    have HT := Lib.hid hT
    clear hR hT
    go_enter Tryd.func35, Tryd.ntmps35
    go_wp2_with fail
    go_quiet (fail)
    rename_i nq
    have hD : Draws w (w.drewN nq) := ⟨nq, rfl⟩
    generalize w.drewN nq = W at hD ⊢
    have j2 : W.cell? ⟨g, 2, none⟩ = some (.string s) := by obtain ⟨n, rfl⟩ := hD; exact k2
    have j10 : W.cell? ⟨g, 10, none⟩ = some (.int .i64 pos) := by obtain ⟨n, rfl⟩ := hD; exact k10
    have hT2 : Lib.Utf8Tabs 1 2 W := Utf8Tabs_below HT.out hD.below
    have cD := decode_q HR.out W hT2
    have m2 := cell_regrown j2
    have m10 := cell_regrown j10
    have HD := Lib.hid hD
    clear hD hT2 k2 k10
    go_wp2_with fail
    refine wp_region_quiet_below (by kernel_rfl) (by kernel_rfl) ?_
    repeat (go_big_quiet_step (exact cD _ _))
    refine wpQuiet_nil ?_
    intro _ hw'
    obtain ⟨⟨dq, osq⟩, hw''⟩ := hw'
    subst hw''
    go_wp2_with fail
    go_ret
    exact ⟨rfl, HD.out.below.trans ((below_regrown W dq osq).mono (HD.out.below (B := 0)).size)⟩
end Go.Proofs.YtlbgmcpjdfoalaaDoor
