/- The contracts of ast.FodderHasCleanEndline and ast.MakeFodderElement (where it does not panic). -/
import Derived.Test.YtlbgmcpjdfoalaaFodB
namespace Go.Proofs.Ytlbgmcpjdfoalaa
open Go.RowKit

def cleanB (la : List El) : Bool := match la.getLast? with | some e => e.kind != 1 | none => false
theorem cleanB_nil {la : List El} (h : ¬ 0 < la.length) : cleanB la = false := by
  have : la = [] := List.eq_nil_of_length_eq_zero (by omega)
  subst this; rfl
theorem cleanB_last {la : List El} (h : la.length - 1 < la.length) : cleanB la = ((la[la.length - 1]'h).kind != 1) := by
  have e : la.getLast? = some (la[la.length - 1]'h) := by
    rw [List.getLast?_eq_getElem?, List.getElem?_eq_getElem h]
  simp [cleanB, e]

set_option maxHeartbeats 400000 in
theorem clean_any (v : Value) (la : List El) (w : World) (B : Nat) (h : FodV w B v la) (hl : la.length ≤ 1000) :
    Calls Try.prog 36 #[v] w fun e w' => e = .returned (.bool (cleanB la)) ∧ w = w' := by
  obtain ⟨A, c, rfl⟩ := h.form
  by_cases h0 : 0 < la.length
  · obtain ⟨b, off, Ac, cc, rfl, hbB, hcv, c0, c1, c2, c3⟩ := h.at_ (k := la.length - 1) (by omega)
    have hcl := Lib.hid (cleanB_last (la := la) (by omega))
    clear h hcv c0 c2 c3
    go_enter Try.func36, Try.ntmps36
    go_wp2
    all_goals (go_ret; refine ⟨retB ?_, rfl⟩; rw [hcl.out])
  · have hcl := Lib.hid (cleanB_nil h0)
    have z : la.length = 0 := by omega
    rw [z]
    clear h z h0
    go_enter Try.func36, Try.ntmps36
    go_wp2
    all_goals (go_ret; refine ⟨retB ?_, rfl⟩; rw [hcl.out])

/-- A fodder element la a value. -/
def fVal (e : El) (cv : Value) : Value := .agg #[cv, .int .i64 e.kind, .int .i64 e.blanks, .int .i64 e.indent]

theorem makePara_any (b i : Int) (A : Option Addr) (n c : Nat) (w : World) (hn : 0 < n) (hm : n ≤ 1000) :
    Calls Try.prog 37 #[.int .i64 2, .int .i64 b, .int .i64 i, .slice A n c] w fun e w' => e = .returned (.agg #[.slice A n c, .int .i64 2, .int .i64 b, .int .i64 i]) ∧ w' = w.alloc (.cells #[.slice A n c, .int .i64 2, .int .i64 b, .int .i64 i] 58) := by
  have hn' : ((n : Int) == 0) = false := by simp; omega
  go_enter Try.func37, Try.ntmps37
  go_wp2
  exact bodyPost_ret (v := .agg #[.slice A n c, .int .i64 2, .int .i64 b, .int .i64 i]) (by simp [results, Try.results37, go_sem]) rfl ⟨rfl, rfl⟩

theorem makeEnd_any (i : Int) (A : Option Addr) (c : Nat) (w : World) :
    Calls Try.prog 37 #[.int .i64 0, .int .i64 0, .int .i64 i, .slice A 0 c] w fun e w' => e = .returned (.agg #[.slice A 0 c, .int .i64 0, .int .i64 0, .int .i64 i]) ∧ w' = w.alloc (.cells #[.slice A 0 c, .int .i64 0, .int .i64 0, .int .i64 i] 58) := by
  go_enter Try.func37, Try.ntmps37
  go_wp2
  exact bodyPost_ret (v := .agg #[.slice A 0 c, .int .i64 0, .int .i64 0, .int .i64 i]) (by simp [results, Try.results37, go_sem]) rfl ⟨rfl, rfl⟩

end Go.Proofs.Ytlbgmcpjdfoalaa
