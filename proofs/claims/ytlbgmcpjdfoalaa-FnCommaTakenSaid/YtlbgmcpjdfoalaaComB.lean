/- CommaOff: what it leaves; impl.CommaTaken. -/
import Derived.Test.YtlbgmcpjdfoalaaMoveA
import Derived.Test.YtlbgmcpjdfoalaaComA
import Derived.OwnWalk
namespace Go.Proofs.Ytlbgmcpjdfoalaa
open Go.RowKit

theorem move_done {ga gb base : Nat} {va vb : Value} {la lb : List El} {w : World} {e : Ending} {w' : World} (h : MoveP ga gb base vb la lb w e w') (hga : w.heap[ga]? = some (.cells #[va] 43 (0, 0))) (hgb : w.heap[gb]? = some (.cells #[vb] 43 (0, 0))) (hne : ga ≠ gb)
    (ba : base ≤ ga) (bb : base ≤ gb) (hb : LOwn 58 fRow w base vb lb) (hbase : base ≤ w.heap.size) :
    ∃ va' vb', e = .returned (.tuple #[]) ∧ w'.cell? ⟨ga, 0, none⟩ = some va' ∧ w'.cell? ⟨gb, 0, none⟩ = some vb' ∧ LOwn 58 fRow w' base va' (concF lb la) ∧ LOwn 58 fRow w' base vb' [] ∧ Below base w w' ∧
      (∀ k, k < w.heap.size → k ≠ ga → k ≠ gb → some k ≠ vb.ownBlock → w'.heap[k]? = w.heap[k]?) := by
  obtain ⟨v', w1, he, ho, hg, rfl⟩ := h
  have hs : w.heap.size ≤ w1.heap.size := hg.size
  have la1 : ga < w.heap.size := (Array.getElem?_eq_some_iff.1 hga).1
  have lb1 : gb < w.heap.size := (Array.getElem?_eq_some_iff.1 hgb).1
  have n1 := fod_ne hga hb
  have n2 := fod_ne hgb hb
  have a1 : w1.heap[ga]? = some (.cells #[va] 43 (0, 0)) := (hg.block ga la1 n1).trans hga
  have b1 : w1.heap[gb]? = some (.cells #[vb] 43 (0, 0)) := (hg.block gb lb1 n2).trans hgb
  have b2 : (w1.setCell ⟨ga, 0, none⟩ v').heap[gb]? = some (.cells #[vb] 43 (0, 0)) := (Below.heap_setCell _ _ _ _ (Ne.symm hne)).trans b1
  have c1 : w1.cell? ⟨ga, 0, none⟩ = some va := by rw [cell_of_row w1 ga 0 _ _ (0, 0) a1]; rfl
  have c2 : (w1.setCell ⟨ga, 0, none⟩ v').cell? ⟨gb, 0, none⟩ = some vb := by rw [cell_of_row _ gb 0 _ _ (0, 0) b2]; rfl
  refine ⟨v', .slice (some ⟨w1.heap.size, 0, none⟩) 0 0, he, ?_, ?_, ((ho.setFod a1 (by decide) _).setFod b2 (by decide) _).alloc _, ⟨[], rfl, ?_, by simp⟩, ?_, fun k hk h1 h2 h3 => ?_⟩
  · rw [World.cell?_alloc_past _ _ _ (by simp; omega), World.cell?_setCell_far _ _ _ _ (by simp; omega)]
    exact World.cell?_setCell_same _ _ _ c1
  · rw [World.cell?_alloc_past _ _ _ (by simp; omega)]
    exact World.cell?_setCell_same _ _ _ c2
  · have h := World.ownsRow_made ((w1.setCell ⟨ga, 0, none⟩ v').setCell ⟨gb, 0, none⟩ (.slice (some ⟨w1.heap.size, 0, none⟩) 0 0)) #[] 0 (base := base) (e := 58) (size := 4) (by simp; omega) (by unfold maxLen; omega) rfl
    rw [World.size_setCell, World.size_setCell] at h
    exact h
  · have hb5 : Below base w w1 := (Below.refl base w).drew.grown hg hbase (fun k hk => hb.ge_ hk)
    exact ((hb5.setCell (p := ⟨ga, 0, none⟩) ba _).setCell (p := ⟨gb, 0, none⟩) bb _).alloc (by simp; omega) _
  · rw [alloc_old _ _ (by simp; omega), Below.heap_setCell _ _ _ _ h2, Below.heap_setCell _ _ _ _ h1]
    exact hg.block k hk h3

def OffP (gl gc ge base : Nat) (la lb : List El) (w : World) (e : Ending) (w' : World) : Prop :=
  ∃ vl ve, e = .returned (.tuple #[]) ∧ w'.cell? ⟨gl, 0, none⟩ = some vl ∧ w'.cell? ⟨gc, 0, none⟩ = some (.bool false) ∧ w'.cell? ⟨ge, 0, none⟩ = some ve ∧
    LOwn 58 fRow w' base vl [] ∧ LOwn 58 fRow w' base ve (concF la lb) ∧ Below base w w'

/-- A list in rows of its own, kept where a block of one cell of another kind is written. -/
theorem LOwn.setBool {T : TypeId} {row : El → Value → List Value} {w : World} {base g : Nat} {v : Value} {es : List El} {cs : Array Value} (h : LOwn T row w base v es) (hg : w.heap[g]? = some (.cells cs 4 (0, 0))) (hT : T ≠ 4) (u : Value) :
    LOwn T row (w.setCell ⟨g, 0, none⟩ u) base v es := by
  have gr : w.grownBy (w.setCell ⟨g, 0, none⟩ u) (some g) := ⟨rfl, rfl, rfl, by simp, fun k _ hk => Below.heap_setCell _ _ _ _ (fun e => hk (by rw [e]))⟩
  obtain ⟨cvs, hl, ho, hc⟩ := h
  have ne : ∀ {b2 : Nat} {e2 : TypeId} {s2 n2 : Nat} {v2 : Value} {x2 : List Value}, w.ownsRow b2 e2 s2 v2 n2 x2 → e2 ≠ 4 → w.grownBy (w.setCell ⟨g, 0, none⟩ u) (some g) → (w.setCell ⟨g, 0, none⟩ u).ownsRow b2 e2 s2 v2 n2 x2 := by
    intro b2 e2 s2 n2 v2 x2 h2 hne hgr
    refine h2.kept hgr ?_
    rcases h2.2 with ⟨rfl, _⟩ | ⟨q, cap, cur, rfl, _, hq, _⟩
    · exact .inl rfl
    · refine .inr fun he => ?_
      have : q = g := by simpa [Value.ownBlock] using he
      subst this
      rw [hq] at hg
      injection hg with hg
      injection hg with _ ht
      exact hne ht
  exact ⟨cvs, hl, ne ho hT gr, fun p hp => ne (hc p hp) (by decide) gr⟩

set_option maxRecDepth 100000 in
set_option maxHeartbeats 1000000 in
theorem remove_any (c : Value) (gl gc ge base : Nat) (cm : Bool) (vl ve : Value) (la lb : List El) (w : World) (hgl : w.heap[gl]? = some (.cells #[vl] 43 (0, 0))) (hgc : w.heap[gc]? = some (.cells #[.bool cm] 4 (0, 0))) (hge : w.heap[ge]? = some (.cells #[ve] 43 (0, 0)))
    (hne : ge ≠ gl) (bl : base ≤ gl) (bc : base ≤ gc) (be : base ≤ ge) (hl : LOwn 58 fRow w base vl la) (he : LOwn 58 fRow w base ve lb) (hap : ve.ownBlock = none ∨ ve.ownBlock ≠ vl.ownBlock)
    (hla : la.length ≤ 300) (hlb : lb.length ≤ 300) (hcb : ∀ e ∈ lb, e.com.length ≤ 1000) (hd : NotDull la lb) (hcase : cm = true ∨ la = []) :
    Calls Try.prog 29 #[c, .pointer (some ⟨gl, 0, none⟩), .pointer (some ⟨gc, 0, none⟩), .pointer (some ⟨ge, 0, none⟩)] w (OffP gl gc ge base la lb w) := by
  have hcl : gc < w.heap.size := (Array.getElem?_eq_some_iff.1 hgc).1
  have kc : w.cell? ⟨gc, 0, none⟩ = some (.bool cm) := by rw [cell_of_row w gc 0 _ _ (0, 0) hgc]; rfl
  have fc : w.frozen? ⟨gc, 0, none⟩ = false := by simp [World.frozen?, hgc]
  have nl : gl ≠ gc := by rintro rfl; rw [hgl] at hgc; injection hgc with h; injection h with _ h; exact absurd h (by decide)
  have ne : ge ≠ gc := by rintro rfl; rw [hge] at hgc; injection hgc with h; injection h with _ h; exact absurd h (by decide)
  cases cm
  · obtain rfl : la = [] := by rcases hcase with h | h; cases h; exact h
    have kl : w.cell? ⟨gl, 0, none⟩ = some vl := by rw [cell_of_row w gl 0 _ _ (0, 0) hgl]; rfl
    have ke : w.cell? ⟨ge, 0, none⟩ = some ve := by rw [cell_of_row w ge 0 _ _ (0, 0) hge]; rfl
    have H : Hid (OffP gl gc ge base [] lb w (.returned (.tuple #[])) w) := Lib.hid ⟨vl, ve, rfl, kl, kc, ke, hl, by simpa [concF] using he, Below.refl _ _⟩
    clear hl he hd hgl hge hgc hap hcb kl ke
    go_enter Try.func29, Try.ntmps29
    go_wp2
    go_end0
    exact H.out
  · have kc2 : (w.setCell ⟨gc, 0, none⟩ (.bool false)).cell? ⟨gc, 0, none⟩ = some (.bool false) := World.cell?_setCell_same _ _ _ kc
    have hl2 := Lib.hid (hl.setBool hgc (by decide) (.bool false))
    have he2 := Lib.hid (he.setBool hgc (by decide) (.bool false))
    have hgl2 : (w.setCell ⟨gc, 0, none⟩ (.bool false)).heap[gl]? = some (.cells #[vl] 43 (0, 0)) := (Below.heap_setCell _ _ _ _ nl).trans hgl
    have hge2 : (w.setCell ⟨gc, 0, none⟩ (.bool false)).heap[ge]? = some (.cells #[ve] 43 (0, 0)) := (Below.heap_setCell _ _ _ _ ne).trans hge
    have hgc2 : ∃ cs, (w.setCell ⟨gc, 0, none⟩ (.bool false)).heap[gc]? = some (.cells cs 4 (0, 0)) := by simp [World.setCell, Array.getElem?_modify, hgc]
    have hb2 : Below base w (w.setCell ⟨gc, 0, none⟩ (.bool false)) := (Below.refl _ _).setCell (p := ⟨gc, 0, none⟩) bc _
    have HAP := Lib.hid hap
    have HD := Lib.hid hd
    have HCB := Lib.hid hcb
    have HGL := Lib.hid hgl2
    have HGE := Lib.hid hge2
    have HGC := Lib.hid hgc2
    have hbs : base ≤ (w.setCell ⟨gc, 0, none⟩ (.bool false)).heap.size := by simp; omega
    have hsz : gc < (w.setCell ⟨gc, 0, none⟩ (.bool false)).heap.size := by simp; omega
    clear hl he hd hgl hge hgc hap hcb hgl2 hge2 hgc2
    go_enter Try.func29, Try.ntmps29
    go_wp2_with fail
    generalize w.setCell ⟨gc, 0, none⟩ (.bool false) = w2 at *
    refine (moveFront_any ge gl base ve vl lb la _ HGE.out HGL.out hne he2.out hl2.out HAP.out hbs hlb hla HCB.out HD.out).mono ?_
    intro e w3 hm
    obtain ⟨ve', vl', rfl, q1, q2, q3, q4, q5, q6⟩ := move_done hm HGE.out HGL.out hne be bl hl2.out hbs
    have q7 : w3.cell? ⟨gc, 0, none⟩ = some (.bool false) := by
      obtain ⟨cs, hcs⟩ := HGC.out
      have hnb : some gc ≠ vl.ownBlock := by
        intro h
        obtain ⟨_, _, ho, _⟩ := hl2.out
        rcases ho.2 with ⟨rfl, _⟩ | ⟨q, cap, cur, rfl, _, hq, _⟩
        · simp [Value.ownBlock] at h
        · have : gc = q := by simpa [Value.ownBlock] using h
          subst this
          rw [hq] at hcs
          injection hcs with h; injection h with _ h; exact absurd h (by decide)
      rw [← kc2]
      exact World.cell?_of_block (a := ⟨gc, 0, none⟩) (q6 gc hsz (Ne.symm ne) (Ne.symm nl) hnb)
    clear hm
    go_wp2
    go_end0
    exact ⟨_, _, rfl, q2, q7, q1, q4, q3, hb2.trans q5⟩
end Go.Proofs.Ytlbgmcpjdfoalaa
