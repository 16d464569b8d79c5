/- The walks of ast.FodderAppend (no paragraph behind a comment within a line). -/
import Derived.Test.YtlbgmcpjdfoalaaConcB
import Derived.Deep.RegionLaw
import Derived.BigRegion
namespace Go.Proofs.Ytlbgmcpjdfoalaa
open Go.RowKit

def FAppP (g base : Nat) (va : Value) (la : List El) (w : World) (e : Ending) (w' : World) : Prop := ∃ v', e = .returned (.tuple #[]) ∧ FAppW g base va la w v' w'

set_option maxRecDepth 100000 in
set_option maxHeartbeats 2000000 in
theorem fappD_any (g base : Nat) (A : Option Addr) (c : Nat) (la : List El) (e : El) (A' : Option Addr) (c' : Nat) (w : World) (hg : w.heap[g]? = some (.cells #[.slice A la.length c] 43 (0, 0)))
    (hown : LOwn 58 fRow w base (.slice A la.length c) la) (hcv : w.ownsRow base 9 1 (.slice A' e.com.length c') e.com.length (strs e.com)) (hbase : base ≤ w.heap.size) (hl : la.length ≤ 1000)
    (bc : Bool) (hcl : cleanB la = bc) (hk : (bc = true ∧ (e.kind == 0) = false) ∨ (bc = false ∧ (e.kind == 2) = false)) :
    Calls Try.prog 30 #[.pointer (some ⟨g, 0, none⟩), .agg #[.slice A' e.com.length c', .int .i64 e.kind, .int .i64 e.blanks, .int .i64 e.indent]] w (FAppP g base (.slice A la.length c) (la ++ [e]) w) := by
  obtain ⟨i0, hi0, hz0, hz1, hz2⟩ := info_parts fod_info
  have hgl : g < w.heap.size := (Array.getElem?_eq_some_iff.1 hg).1
  have hc : w.cell? ⟨g, 0, none⟩ = some (.slice A la.length c) := by rw [cell_of_row w g 0 _ _ (0, 0) hg]; rfl
  have hf : w.frozen? ⟨g, 0, none⟩ = false := by simp [World.frozen?, hg]
  have hread := hown.readF
  have cl : ∀ W, Below w.heap.size w W → Calls Try.prog 36 #[.slice A la.length c] W fun e w' => e = .returned (.bool bc) ∧ W = w' := by
    intro W hW
    subst hcl
    exact clean_any _ la W w.heap.size (hread.below hW (Nat.le_refl _)) hl
  obtain ⟨cvs, hcl', ho, hcs⟩ := hown
  obtain ⟨n, hn⟩ : ∃ n, la.length = n := ⟨_, rfl⟩
  rw [hn] at hg hc ho cl hl ⊢
  have CL := Lib.hid cl
  have HG := Lib.hid hg
  have HO := Lib.hid ho
  have HCV := Lib.hid hcv
  have HCL := Lib.hid hcl'
  have HCS := Lib.hid hcs
  have HN := Lib.hid hn
  have hne1 : some g ≠ (Value.slice A n c).ownBlock := by
    rcases ho.2 with ⟨hv, _⟩ | ⟨q, cap, cur, hv, _, hq, _⟩
    · rw [hv]; simp [Value.ownBlock]
    · rw [hv]; intro he
      have : g = q := by simpa [Value.ownBlock] using he
      subst this
      rw [hq] at hg
      injection hg with hg
      injection hg with _ ht
      exact absurd ht (by decide)
  have hne2 : some w.heap.size ≠ (Value.slice A n c).ownBlock := by
    intro h; have := (ho.lt _ h.symm).2; omega
  clear cl hg ho hcv hcl' hcs hn hread hcl
  have hb1 : Below w.heap.size w (w.alloc (.cells #[.slice A' e.com.length c', .int .i64 e.kind, .int .i64 e.blanks, .int .i64 e.indent] 58)) := (Below.refl _ _).alloc (Nat.le_refl _) _
  have HB1 := Lib.hid hb1
  clear hb1
  rcases hk with ⟨rfl, hk⟩ | ⟨rfl, hk⟩
  all_goals
    go_enter Try.func30, Try.ntmps30
    go_wp2_with (go_at_call 36; refine (CL.out _ HB1.out).mono ?_; rintro e' w' ⟨rfl, rfl⟩)
    go_region_law (
      first
        | (refine step_append_rowV _ (by rfl) (.tmp 79) (.tmp 81) _ (by rfl) base 58 i0 _ 4 48 Try.underlying43 hi0 hz0 hz1 hz2 rfl (by omega) (.slice A n c) n (lrows fRow la cvs) (by rfl) ((HO.out.alloc _).alloc _) (some ⟨w.heap.size + 1, 0, none⟩) 1 1 (fRow e (.slice A' e.com.length c')) (by rfl) rfl (fun _ => ⟨_, rfl, news_at (cs := #[.slice A' e.com.length c', .int .i64 e.kind, .int .i64 e.blanks, .int .i64 e.indent]) (by simp)⟩) (by simp [fRow, Value.oneCell']) (by unfold maxLen; omega) (by omega) (by simp; omega) ?_; intro A2 c2' w2 hap2; have hfz : w2.frozen? ⟨g, 0, none⟩ = false := ((World.frozen?_of_block (a := ⟨g, 0, none⟩) (hap2.grown.block g (by simp; omega) hne1)).trans (by simp [go_sem, hgl, hf])); have hcz : w2.cell? ⟨g, 0, none⟩ = some (.slice A n c) := hap2.grown.cell (by simp [go_sem, hgl, hc]) hne1))
    all_goals
      have hdone := fapp_done (e := e) (HB1.out.drew) HG.out HN.out HCL.out HO.out HCS.out HCV.out hap2
      go_wp2
      go_end0
      exact ⟨_, rfl, hdone⟩
end Go.Proofs.Ytlbgmcpjdfoalaa
