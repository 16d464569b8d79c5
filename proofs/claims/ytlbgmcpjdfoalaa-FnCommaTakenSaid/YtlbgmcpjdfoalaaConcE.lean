/- ast.FodderAppend: a line's end without a comment behind a clean end. -/
import Derived.Test.YtlbgmcpjdfoalaaConcC
namespace Go.Proofs.Ytlbgmcpjdfoalaa
open Go.RowKit

theorem lrows_len_f (es : List El) (cvs : List Value) (h : cvs.length = es.length) : (lrows fRow es cvs).length = es.length * 4 := lrows_len fRow (fun _ _ => rfl) es cvs h

/-- Two fields of the last element have been written in its row. -/
theorem last_set (init : List El) (x : El) (cvs : List Value) (hcl : cvs.length = (init ++ [x]).length) (i b : Int) :
    ((lrows fRow (init ++ [x]) cvs).set (init.length * 4 + 3) (.int .i64 i)).set (init.length * 4 + 2) (.int .i64 b) = lrows fRow (init ++ [{ x with indent := i, blanks := b }]) cvs := by
  obtain ⟨cvs0, cv, rfl⟩ : ∃ c0 c1, cvs = c0 ++ [c1] := by
    rcases List.eq_nil_or_concat cvs with h | ⟨l, a, h⟩
    · subst h; simp at hcl
    · exact ⟨l, a, by simpa using h⟩
  have hl : cvs0.length = init.length := by simpa using hcl
  rw [lrows_snoc _ _ _ _ _ hl, lrows_snoc _ _ _ _ _ hl]
  have h4 := lrows_len_f init cvs0 hl
  rw [List.set_append_right _ _ (by omega), List.set_append_right _ _ (by omega)]
  have e3 : init.length * 4 + 3 - (lrows fRow init cvs0).length = 3 := by omega
  have e2 : init.length * 4 + 2 - (lrows fRow init cvs0).length = 2 := by omega
  rw [e3, e2]
  rfl

theorem fappB_done {w : World} {g base q m c : Nat} {init : List El} {x : El} {i b : Int} {cvs : List Value} {W : World} (hbel : Below w.heap.size w W)
    (hg : w.heap[g]? = some (.cells #[.slice (some ⟨q, 0, none⟩) (m + 1) c] 43 (0, 0))) (hm : init.length = m) (hcl : cvs.length = (init ++ [x]).length)
    (hown : w.ownsRow base 58 4 (.slice (some ⟨q, 0, none⟩) (m + 1) c) (m + 1) (lrows fRow (init ++ [x]) cvs)) (hcs : ∀ p ∈ (init ++ [x]).zip cvs, w.ownsRow base 9 1 p.2 p.1.com.length (strs p.1.com)) :
    FAppW g base (.slice (some ⟨q, 0, none⟩) (m + 1) c) (init ++ [{ x with indent := i, blanks := b }]) w (.slice (some ⟨q, 0, none⟩) (m + 1) c) ((W.setCell ⟨q, m * 4 + 3, none⟩ (.int .i64 i)).setCell ⟨q, m * 4 + 2, none⟩ (.int .i64 b)) := by
  subst hm
  have hgl : g < w.heap.size := (Array.getElem?_eq_some_iff.1 hg).1
  have hgq : g ≠ q := by
    rintro rfl
    rcases hown.2 with ⟨hv, _⟩ | ⟨q', cap, cur, hv, _, hq, _⟩
    · cases hv
    · injection hv with h1
      injection h1 with h1
      injection h1 with h1
      subst h1
      rw [hq] at hg
      injection hg with hg
      injection hg with _ ht
      exact absurd ht (by decide)
  have hW := grown_of_below hbel
  have o1 := hown.kept hW (.inr (by simp [Value.ownBlock]))
  have s1 := o1.stored (init.length * 4 + 3) (.int .i64 i)
  have s2 := s1.1.stored (init.length * 4 + 2) (.int .i64 b)
  have gr : W.grownBy ((W.setCell ⟨q, init.length * 4 + 3, none⟩ (.int .i64 i)).setCell ⟨q, init.length * 4 + 2, none⟩ (.int .i64 b)) (some q) := s1.2.trans s2.2
  refine ⟨?_, ⟨cvs, by simpa using hcl, ?_, fun p hp => ?_⟩, Only.of_below hbel (Only.of_grown gr g), .inl rfl⟩
  · rw [gr.block g (Nat.lt_of_lt_of_le hgl hbel.size) (by simpa using hgq), hbel.block g hgl]; exact hg
  · have := s2.1
    rw [last_set _ _ _ hcl] at this
    simpa using this
  · have hmem : ∃ p' ∈ (init ++ [x]).zip cvs, p'.2 = p.2 ∧ p'.1.com = p.1.com := by
      obtain ⟨k, hk, he⟩ := List.mem_iff_getElem.1 hp
      have hk' : k < ((init ++ [x]).zip cvs).length := by simpa using hk
      refine ⟨((init ++ [x]).zip cvs)[k], List.getElem_mem hk', ?_, ?_⟩
      · rw [← he]; simp
      · rw [← he]
        simp only [List.getElem_zip]
        by_cases h : k < init.length
        · rw [List.getElem_append_left h, List.getElem_append_left h]
        · rw [List.getElem_append_right (by omega), List.getElem_append_right (by omega)]
          simp
    obtain ⟨p', hp', h2, h1⟩ := hmem
    have h := hcs p' hp'
    rw [h2, h1] at h
    exact (h.kept hW (by cases p.2.ownBlock <;> simp)).kept gr (own_apart (h.kept hW (by cases p.2.ownBlock <;> simp)) o1 (by decide))

set_option maxRecDepth 100000 in
set_option maxHeartbeats 2000000 in
theorem fappB_any (g base : Nat) (A : Option Addr) (m c : Nat) (init : List El) (x e : El) (A' : Option Addr) (c' : Nat) (w : World) (hm : init.length = m) (hg : w.heap[g]? = some (.cells #[.slice A (m + 1) c] 43 (0, 0)))
    (hown : LOwn 58 fRow w base (.slice A (m + 1) c) (init ++ [x])) (hl : m ≤ 900)
    (hcl : cleanB (init ++ [x]) = true) (hk : (e.kind == 0) = true) (hcom : e.com.length = 0) :
    Calls Try.prog 30 #[.pointer (some ⟨g, 0, none⟩), .agg #[.slice A' e.com.length c', .int .i64 e.kind, .int .i64 e.blanks, .int .i64 e.indent]] w (FAppP g base (.slice A (m + 1) c) (init ++ [{ x with indent := e.indent, blanks := wrap64 (x.blanks + e.blanks) }]) w) := by
  rw [hcom]
  have hgl : g < w.heap.size := (Array.getElem?_eq_some_iff.1 hg).1
  have hc : w.cell? ⟨g, 0, none⟩ = some (.slice A (m + 1) c) := by rw [cell_of_row w g 0 _ _ (0, 0) hg]; rfl
  have hread := hown.readF
  have cl : ∀ W, Below w.heap.size w W → Calls Try.prog 36 #[.slice A (m + 1) c] W fun e w' => e = .returned (.bool true) ∧ W = w' := by
    intro W hW
    rw [← hcl]
    exact clean_any _ _ W w.heap.size (hread.below hW (Nat.le_refl _)) (by simp; omega)
  obtain ⟨q, Ac, cc, rfl, hbq, hql, hco, hat⟩ := hown.at_ (fun _ _ => rfl) (k := m) (by simp; omega)
  obtain ⟨cvs, hcl', ho, hcs⟩ := hown
  have hx : (init ++ [x])[m]'(by simp; omega) = x := by subst hm; simp
  have h2 : w.cell? ⟨q, m * 4 + 2, none⟩ = some (.int .i64 x.blanks) := by have := hat 2 _ rfl; rw [hx] at this; exact this
  have h3 : w.cell? ⟨q, m * 4 + 3, none⟩ = some (.int .i64 x.indent) := by have := hat 3 _ rfl; rw [hx] at this; exact this
  have hgq : ¬ g = q := by
    rintro rfl
    rcases ho.2 with ⟨hv, _⟩ | ⟨q', cap, cur, hv, _, hq, _⟩
    · cases hv
    · injection hv with h1
      injection h1 with h1
      injection h1 with h1
      subst h1
      rw [hq] at hg
      injection hg with hg
      injection hg with _ ht
      exact absurd ht (by decide)
  have hln : (init ++ [x]).length = m + 1 := by simp; omega
  rw [hln] at ho
  have hfq : ∀ j, w.frozen? ⟨q, j, none⟩ = false := ho.frozenAt
  have CL := Lib.hid cl
  have HG := Lib.hid hg
  have HO := Lib.hid ho
  have HCL := Lib.hid hcl'
  have HCS := Lib.hid hcs
  have HM := Lib.hid hm
  clear hco cl hg ho hcl' hcs hread hcl hat hx hln
  clear hm
  have HB1 := Lib.hid ((Below.refl w.heap.size w).alloc (Nat.le_refl _) (.cells #[.slice A' 0 c', .int .i64 e.kind, .int .i64 e.blanks, .int .i64 e.indent] 58))
  go_enter Try.func30, Try.ntmps30
  go_wp2_with (go_at_call 36; refine (CL.out _ HB1.out).mono ?_; rintro e' w' ⟨rfl, rfl⟩)
  go_quiet (fail)
  go_wp2
  go_region
  all_goals
    go_end0
    exact ⟨_, rfl, fappB_done (below_drewN HB1.out nq).drew HG.out HM.out HCL.out HO.out HCS.out⟩
end Go.Proofs.Ytlbgmcpjdfoalaa
