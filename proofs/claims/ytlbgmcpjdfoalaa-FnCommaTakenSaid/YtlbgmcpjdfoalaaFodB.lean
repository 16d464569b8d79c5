/- The contract of impl.elements: the list of elements that fodder is, in rows of the call's own. -/
import Derived.Test.YtlbgmcpjdfoalaaFodA
namespace Go.Proofs.Ytlbgmcpjdfoalaa
open Go.RowKit

theorem el_info : (Try.prog.info? 39).map (fun i => (i.zero, i.size, i.bytes)) = some (some (.agg #[.int .i64 0, .int .i64 0, .int .i64 0, .slice none 0 0]), 4, 48) := by kernel_rfl
def IEls (es : List El) (w : World) (e : Ending) (w' : World) : Prop := ∃ v', e = .returned v' ∧ LOwn 39 eRow w' w.heap.size v' es ∧ Below w.heap.size w w'
def SmallEls (es : List El) : Prop := es.length ≤ 1000 ∧ ∀ e ∈ es, e.com.length ≤ 1000

set_option maxRecDepth 100000 in
set_option maxHeartbeats 2000000 in
theorem elements_any (v : Value) (es : List El) (w : World) (h1 : FodV w w.heap.size v es) (hg : SmallEls es) :
    Calls Try.prog 21 #[v] w (IEls es w) := by
  obtain ⟨i0, hi0, hz0, hz1, hz2⟩ := info_parts el_info
  obtain ⟨j0, hj0, jz0, jz1, jz2⟩ := info_parts str_info
  obtain ⟨A, c, rfl⟩ := h1.form
  have H1 := Lib.hid h1
  have HG := Lib.hid hg
  have hlen := hg.1
  clear h1 hg
  go_enter Try.func21, Try.ntmps21
  go_wp2
  go_loopw [3, 8] (fun v i wr => ∃ k : Nat, k ≤ es.length ∧ i = .int .i64 k ∧ LOwn 39 eRow wr w.heap.size v (es.take k) ∧ Below w.heap.size w wr) (fun _ i _ => es.length - (intOf i).toNat)
  case atStart => exact ⟨0, Nat.zero_le _, rfl, LOwn.nil _ _ _ _, Below.refl _ _⟩
  case round =>
    obtain ⟨k, hk, rfl, hown, hb⟩ := hrel
    by_cases hlt : k < es.length
    · obtain ⟨b, off, Ac, cc, rfl, hbB, hcv, c0, c1, c2, c3⟩ := (H1.out.below hb (Nat.le_refl _)).at_ hlt
      have hlt' : (k : Int) < (es.length : Int) := by omega
      have hk3 := HG.out.2 _ (List.getElem_mem hlt)
      have hsz := hb.size
      obtain ⟨A4, c4, rfl⟩ := hown.form
      have htl : (es.take k).length = k := by simp; omega
      rw [htl] at hown ⊢
      have HO := Lib.hid hown
      clear hown
      go_wp2
      have hBW : w.heap.size ≤ wr.heap.size + 1 := by omega
      have hbel7 : Below wr.heap.size wr ((wr.alloc (.cells #[.slice Ac es[k].com.length cc, .int .i64 es[k].kind, .int .i64 es[k].blanks, .int .i64 es[k].indent] 58)).alloc (.cells #[] 9)).drew := (((Below.refl _ _).alloc (Nat.le_refl _) _).alloc (by simp) _).drew
      have hown7 : ((wr.alloc (.cells #[.slice Ac es[k].com.length cc, .int .i64 es[k].kind, .int .i64 es[k].blanks, .int .i64 es[k].indent] 58)).alloc (.cells #[] 9)).drew.ownsRow w.heap.size 9 1 (.slice (some ⟨wr.heap.size + 1, 0, none⟩) 0 0) 0 [] := by
        have h := World.ownsRow_made (wr.alloc (.cells #[.slice Ac es[k].com.length cc, .int .i64 es[k].kind, .int .i64 es[k].blanks, .int .i64 es[k].indent] 58)) #[] 0 (base := w.heap.size) (e := 9) (size := 1) (by simp; omega) (by unfold maxLen; omega) rfl
        rw [World.size_alloc] at h
        exact h
      have hsrc7 := (RowV.src (hcv.below hbel7 hsz)).2
      have hone : ∀ u ∈ strs es[k].com, u.oneCell' = true := by
        intro u hu; simp only [strs, List.mem_map] at hu; obtain ⟨s, _, rfl⟩ := hu; rfl
      have hl7 : (strs es[k].com).length = es[k].com.length * 1 := by simp [strs]
      have HA := Lib.hid hown7
      have HB := Lib.hid hsrc7
      have HC := Lib.hid hone
      have HD := Lib.hid hl7
      have HE := Lib.hid hbel7
      clear hown7 hsrc7 hone hl7 hbel7
      obtain ⟨cvs, hcl, ho4, hcs⟩ := HO.out
      rw [htl] at ho4
      have hne4 : (Value.slice A4 k c4).ownBlock ≠ some wr.heap.size := by
        intro h; have := (ho4.lt _ h).2; omega
      have HO4 := Lib.hid ho4
      have HCS := Lib.hid hcs
      have HCL := Lib.hid hcl
      clear ho4 hcs hcl
      go_region_held3 (fun w' => w'.cell? ⟨wr.heap.size, 0, none⟩ = some (.slice Ac es[k].com.length cc) ∧ w'.cell? ⟨wr.heap.size, 1, none⟩ = some (.int .i64 es[k].kind) ∧ w'.cell? ⟨wr.heap.size, 2, none⟩ = some (.int .i64 es[k].blanks) ∧ w'.cell? ⟨wr.heap.size, 3, none⟩ = some (.int .i64 es[k].indent))
        (first
          | go_keep
          | ((try dsimp only); refine ⟨?_, ?_, ?_, ?_⟩ <;> first | go_keep | (refine hap2.grown.cell ?_ (Ne.symm hne4); first | assumption | go_keep) | (refine hap1.grown.cell ?_ (by simp [Value.ownBlock]); simp [go_sem])))
        (first
          | (refine step_append_rowV _ (by rfl) (.tmp 12) (.tmp 24) _ (by rfl) w.heap.size 39 i0 _ 4 48 Try.underlying22 hi0 hz0 hz1 hz2 rfl (by omega) (.slice A4 k c4) k (lrows eRow (es.take k) cvs) (by rfl) (HO1.out.alloc _) (some ⟨w1.heap.size, 0, none⟩) 1 1 (eRow es[k] (.slice A1 es[k].com.length c1')) (by rfl) rfl (fun _ => ⟨_, rfl, World.news_of_block (cs := #[.int .i64 es[k].kind, .int .i64 es[k].blanks, .int .i64 es[k].indent, .slice A1 es[k].com.length c1']) (t := 39) (fr := (0, 0)) (heap_alloc_new w1 _)⟩) (by simp [eRow, Value.oneCell']) (by unfold maxLen; omega) (by omega) (by simp; omega) ?_; intro A2 c2' w2 hap2)
          | (refine step_append_rowV _ (by rfl) (.tmp 19) (.tmp 21) _ (by rfl) w.heap.size 9 j0 _ 1 16 Try.underlying30 hj0 jz0 jz1 jz2 rfl (by omega) _ 0 [] (by rfl) HA.out Ac es[k].com.length cc (strs es[k].com) (by rfl) HD.out HB.out HC.out (by unfold maxLen; omega) (by omega) (by simp; omega) ?_; intro A1 c1' w1 hap1; have g1 := grown_over HE.out hap1.grown (by simp); have HO1 := Lib.hid (HO4.out.kept g1 (by cases (Value.slice A4 k c4).ownBlock <;> simp)); have hs1 : wr.heap.size + 2 ≤ w1.heap.size := (by have := hap1.grown.size; simpa using this)))
      have gw : Below w.heap.size w w2 := ((hb.grown g1 hsz (by simp)).alloc (by omega) _).grown hap2.grown (by simp; omega) (fun g hgg => (HO4.out.lt g hgg).1)
      have hfin : LOwn 39 eRow w2 w.heap.size (.slice A2 (k + 1) c2') (es.take (k + 1)) := by
        rw [List.take_succ_eq_append_getElem hlt]
        refine lown_push (by decide) (w := w1.alloc (.cells #[.int .i64 es[k].kind, .int .i64 es[k].blanks, .int .i64 es[k].indent, .slice A1 es[k].com.length c1'] 39)) (v := .slice A4 k c4) HCL.out htl (HO1.out.alloc _) (fun p hp => ((HCS.out p hp).kept g1 (by cases p.2.ownBlock <;> simp)).alloc _) ?_ hap2.grown hap2.own
        have := hap1.own
        simp only [Nat.zero_add, List.nil_append] at this
        exact this.alloc _
      have HFIN := Lib.hid hfin
      clear hfin
      go_wp2
      go_roundw
      case rel => exact ⟨k + 1, by omega, by go_num, HFIN.out, gw⟩
      case measure => simp [intOf]; omega
    · obtain rfl : k = es.length := by omega
      obtain ⟨A4, c4, rfl⟩ := hown.form
      have HO := Lib.hid hown
      clear hown
      go_wp2
      go_ret
      exact ⟨_, rfl, by simpa [List.take_length] using HO.out, hb⟩

end Go.Proofs.Ytlbgmcpjdfoalaa
