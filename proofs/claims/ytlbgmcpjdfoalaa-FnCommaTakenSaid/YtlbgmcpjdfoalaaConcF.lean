/- The contract of ast.FodderConcat on fodder of the caller's own making (no paragraph behind a comment within a line). -/
import Derived.Test.YtlbgmcpjdfoalaaConcD
import Derived.Test.YtlbgmcpjdfoalaaConcE
namespace Go.Proofs.Ytlbgmcpjdfoalaa
open Go.RowKit

theorem fapp_any (g base : Nat) (va : Value) (la : List El) (e : El) (cv : Value) (w : World) (hg : w.heap[g]? = some (.cells #[va] 43 (0, 0)))
    (hown : LOwn 58 fRow w base va la) (hcv : w.ownsRow base 9 1 cv e.com.length (strs e.com)) (hbase : base ≤ w.heap.size) (hl : la.length ≤ 800) (hle : e.com.length ≤ 1000)
    (hd : cleanB la = true ∨ (e.kind == 2) = false) :
    Calls Try.prog 30 #[.pointer (some ⟨g, 0, none⟩), fVal e cv] w (FAppP g base va (appendF la e) w) := by
  obtain ⟨A', c', rfl⟩ := own_form hcv
  obtain ⟨A, c, rfl⟩ := hown.form
  unfold fVal
  by_cases hcl : cleanB la = true
  · by_cases hk : (e.kind == 0) = true
    · by_cases hc : 0 < e.com.length
      · have : appendF la e = la ++ [⟨2, e.blanks, e.indent, e.com⟩] := by simp only [appendF, hcl, hk, Bool.and_self, if_true, hc]
        rw [this]
        exact fappA_any g base A c la e A' c' w hg hown hcv hbase (by omega) hcl hk hc hle
      · rcases List.eq_nil_or_concat la with h | ⟨init, x, h⟩
        · subst h; simp [cleanB] at hcl
        · obtain rfl : la = init ++ [x] := by simpa using h
          have : appendF (init ++ [x]) e = init ++ [{ x with indent := e.indent, blanks := wrap64 (x.blanks + e.blanks) }] := by
            simp only [appendF, hcl, hk, Bool.and_self, if_true, hc, if_false, lastMod]
            simp
          rw [this]
          have hln : (init ++ [x]).length = init.length + 1 := by simp
          rw [hln] at hg hown hl ⊢
          exact fappB_any g base A init.length c init x e A' c' w rfl hg hown (by omega) hcl hk (by omega)
    · have hk' : (e.kind == 0) = false := by simpa using hk
      have : appendF la e = la ++ [e] := by simp only [appendF, hk', Bool.and_false, Bool.false_eq_true, if_false]
      rw [this]
      exact fappD_any g base A c la e A' c' w hg hown hcv hbase (by omega) true hcl (.inl ⟨rfl, hk'⟩)
  · have hcl' : cleanB la = false := by simpa using hcl
    have hk2 : (e.kind == 2) = false := hd.resolve_left hcl
    have : appendF la e = la ++ [e] := by simp only [appendF, hcl', Bool.false_and, Bool.false_eq_true, if_false]
    rw [this]
    exact fappD_any g base A c la e A' c' w hg hown hcv hbase (by omega) false hcl' (.inr ⟨rfl, hk2⟩)

theorem appendF_len (la : List El) (e : El) : (appendF la e).length ≤ la.length + 1 := by
  unfold appendF
  split
  · split
    · simp
    · unfold lastMod
      split
      · simp
      · omega
  · simp
theorem appendF_com {n : Nat} {la : List El} {e : El} (h : ∀ x ∈ la, x.com.length ≤ n) (he : e.com.length ≤ n) : ∀ x ∈ appendF la e, x.com.length ≤ n := by
  intro x hx
  unfold appendF at hx
  split at hx
  · split at hx
    · rw [List.mem_append] at hx
      rcases hx with hx | hx
      · exact h x hx
      · simp at hx; subst hx; exact he
    · unfold lastMod at hx
      split at hx
      · rename_i y hy
        rw [List.mem_append] at hx
        rcases hx with hx | hx
        · exact h x (List.dropLast_subset _ hx)
        · simp at hx; subst hx
          exact h y (List.mem_of_getLast? hy)
      · exact h x hx
  · rw [List.mem_append] at hx
    rcases hx with hx | hx
    · exact h x hx
    · simp at hx; subst hx; exact he

def concF (la lb : List El) : List El := if la.length = 0 then lb else match lb with
  | [] => la
  | b0 :: rest => appendF la b0 ++ rest
def NotDull (la lb : List El) : Prop := la.length = 0 ∨ cleanB la = true ∨ ∀ b0, lb[0]? = some b0 → (b0.kind == 2) = false
def ConcP (base : Nat) (va : Value) (la lb : List El) (w : World) (e : Ending) (w' : World) : Prop := ∃ v', e = .returned v' ∧ LOwn 58 fRow w' base v' (concF la lb) ∧ w.grownBy w' va.ownBlock
end Go.Proofs.Ytlbgmcpjdfoalaa
