/- The walk of ast.FodderConcat. -/
import Derived.Test.YtlbgmcpjdfoalaaConcF
namespace Go.Proofs.Ytlbgmcpjdfoalaa
open Go.RowKit

theorem concF_take (la : List El) (b0 : El) (rest : List El) (h : ¬ la.length = 0) (k : Nat) : concF la ((b0 :: rest).take (k + 1)) = appendF la b0 ++ rest.take k := by
  simp [concF, h]

theorem concF_len (la lb : List El) : (concF la lb).length ≤ la.length + lb.length := by
  unfold concF
  split
  · omega
  · cases lb with
    | nil => simp
    | cons b r => have := appendF_len la b; simp; omega

theorem LOwn.lt_ {T : TypeId} {row : El → Value → List Value} {w : World} {base : Nat} {v : Value} {es : List El} (h : LOwn T row w base v es) {k : Nat} (hk : v.ownBlock = some k) : k < w.heap.size := by
  obtain ⟨_, _, ho, _⟩ := h
  exact (ho.lt k hk).2

structure CInv (G base : Nat) (va vb : Value) (la lb : List El) (w wr : World) (k : Nat) (v' : Value) : Prop where
  blk : wr.heap[G]? = some (.cells #[v'] 43 (0, 0))
  own : LOwn 58 fRow wr base v' (concF la (lb.take k))
  bown : LOwn 58 fRow wr base vb lb
  apart : vb.ownBlock = none ∨ vb.ownBlock ≠ v'.ownBlock
  grown : w.grownBy wr va.ownBlock
  rowk : v'.ownBlock = va.ownBlock ∨ ∃ j, v'.ownBlock = some j ∧ w.heap.size ≤ j

theorem concF_snoc (la lb : List El) (h : ¬ la.length = 0) (k : Nat) (h1 : 1 ≤ k) (hk : k < lb.length) : concF la (lb.take (k + 1)) = concF la (lb.take k) ++ [lb[k]'hk] := by
  cases lb with
  | nil => simp at hk
  | cons b0 rest =>
    obtain ⟨j, rfl⟩ : ∃ j, k = j + 1 := ⟨k - 1, by omega⟩
    have hj : j < rest.length := by simpa using hk
    rw [concF_take _ _ _ h, concF_take _ _ _ h, List.take_succ_eq_append_getElem hj]
    simp

theorem CInv.step {G base k : Nat} {va vb v' v'' : Value} {la lb : List El} {w wr w' : World} (h : CInv G base va vb la lb w wr k v') (hla : ¬ la.length = 0) (h1 : 1 ≤ k) (hk : k < lb.length) (hG : w.heap.size ≤ G)
    (hw : FAppW G base v' (concF la (lb.take k) ++ [lb[k]'hk]) wr v'' w') : CInv G base va vb la lb w w' (k + 1) v'' := by
  obtain ⟨cvA, lA, oA, _⟩ := h.own
  refine ⟨hw.blk, ?_, h.bown.only oA hw.only h.blk (by decide) h.apart, ?_, ⟨hw.only.os.trans h.grown.os, hw.only.tape.trans h.grown.tape, hw.only.output.trans h.grown.output, Nat.le_trans h.grown.size hw.only.size, fun i hi hne => ?_⟩, ?_⟩
  · rw [concF_snoc _ _ hla _ h1 hk]; exact hw.own
  · rcases hw.row with h2 | ⟨j, h2, hj⟩
    · rw [h2]; exact h.apart
    · rw [h2]
      right
      intro he
      have := h.bown.lt_ he
      omega
  · refine (hw.only.block i (Nat.lt_of_lt_of_le hi h.grown.size) (by omega) ?_).trans (h.grown.block i hi hne)
    rcases h.rowk with h2 | ⟨j, h2, hj⟩
    · rw [h2]; exact hne
    · rw [h2]; intro e; injection e; omega
  · rcases hw.row with h2 | ⟨j, h2, hj⟩
    · rw [h2]; exact h.rowk
    · exact .inr ⟨j, h2, by have := h.grown.size; omega⟩

set_option maxRecDepth 100000 in
set_option maxHeartbeats 4000000 in
theorem concat_any (base : Nat) (va vb : Value) (la lb : List El) (w : World) (ha : LOwn 58 fRow w base va la) (hb : LOwn 58 fRow w base vb lb) (hap : vb.ownBlock = none ∨ vb.ownBlock ≠ va.ownBlock) (hbase : base ≤ w.heap.size)
    (hla : la.length ≤ 300) (hlb : lb.length ≤ 300) (hcb : ∀ e ∈ lb, e.com.length ≤ 1000) (hd : NotDull la lb) :
    Calls Try.prog 22 #[va, vb] w (ConcP base va la lb w) := by
  obtain ⟨i0, hi0, hz0, hz1, hz2⟩ := info_parts fod_info
  obtain ⟨A, c, rfl⟩ := ha.form
  obtain ⟨A', c', rfl⟩ := hb.form
  have HA := Lib.hid ha
  have HB := Lib.hid hb
  have HAP := Lib.hid hap
  clear ha hb hap
  by_cases h0 : la.length = 0
  · have e : concF la lb = lb := by simp [concF, h0]
    have HE := Lib.hid e
    clear e
    rw [h0]
    go_enter Try.func22, Try.ntmps22
    go_wp2
    go_ret
    refine ⟨_, rfl, ?_, World.grownBy.refl w _⟩
    rw [HE.out]; exact HB.out
  · by_cases h1 : lb.length = 0
    · have e : concF la lb = la := by
        have : lb = [] := List.eq_nil_of_length_eq_zero h1
        subst this; simp [concF, h0]
      have HE := Lib.hid e
      clear e
      have h0' : ((la.length : Int) == 0) = false := by rw [beq_eq_false_iff_ne]; omega
      rw [h1]
      clear h0
      go_enter Try.func22, Try.ntmps22
      go_wp2
      go_ret
      refine ⟨_, rfl, ?_, World.grownBy.refl w _⟩
      rw [HE.out]; exact HA.out
    · obtain ⟨b0, rest, rfl⟩ : ∃ b0 rest, lb = b0 :: rest := by
        cases lb with
        | nil => simp at h1
        | cons b r => exact ⟨b, r, rfl⟩
      have hdd : cleanB la = true ∨ (b0.kind == 2) = false := by
        rcases hd with h | h | h
        · exact absurd h h0
        · exact .inl h
        · exact .inr (h b0 rfl)
      have hT : Hid (∀ k, concF la ((b0 :: rest).take (k + 1)) = appendF la b0 ++ rest.take k) := Lib.hid (concF_take la b0 rest h0)
      have h0' : ((la.length : Int) == 0) = false := by rw [beq_eq_false_iff_ne]; omega
      have h1' : (((b0 :: rest).length : Int) == 0) = false := by simp; omega
      obtain ⟨qb, Ac, cc, rfl, hbq, hql, hco, hat⟩ := HB.out.at_ (fun _ _ => rfl) (k := 0) (by simp)
      simp only [List.getElem_cons_zero, Nat.zero_mul, Nat.zero_add] at hco hat
      have k0 := hat 0 _ rfl
      have k1 := hat 1 _ rfl
      have k2 := hat 2 _ rfl
      have k3 := hat 3 _ rfl
      clear hat
      have HCO := Lib.hid hco
      obtain ⟨nb, hnb⟩ : ∃ nb, (b0 :: rest).length = nb := ⟨_, rfl⟩
      rw [hnb] at h1' hlb HB HAP h1 ⊢
      have HNB := Lib.hid hnb
      have HLA := Lib.hid h0
      clear hnb hco h0 hd
      go_enter Try.func22, Try.ntmps22
      go_wp2_with fail
      have hbx : Below w.heap.size w (w.alloc (.cells #[.slice A la.length c] 43)) := (Below.refl _ _).alloc (Nat.le_refl _) _
      refine (fapp_any w.heap.size base (.slice A la.length c) la b0 (.slice Ac b0.com.length cc) _ (heap_alloc_new w _) (HA.out.alloc _) (HCO.out.alloc _) (by simp; omega) (by omega) (hcb b0 (by simp)) hdd).mono ?_
      rintro e w1 ⟨v1, rfl, hw1⟩
      go_wp2
      have inv1 : CInv w.heap.size base (.slice A la.length c) (.slice (some ⟨qb, 0, none⟩) nb c') la (b0 :: rest) w w1 1 v1 := by
        obtain ⟨cvA, lA, oA, _⟩ := HA.out.alloc (.cells #[.slice A la.length c] 43)
        have hbo := HB.out.alloc (.cells #[.slice A la.length c] 43)
        refine ⟨hw1.blk, ?_, hbo.only oA hw1.only (heap_alloc_new w _) (by decide) HAP.out, ?_, ⟨hw1.only.os, hw1.only.tape, hw1.only.output, by have := hw1.only.size; simp at this; omega, fun i hi hne => ?_⟩, ?_⟩
        · rw [hT.out 0]; simpa using hw1.own
        · rcases hw1.row with h | ⟨j, h, hj⟩
          · rw [h]; exact HAP.out
          · rw [h]
            right
            intro he
            have := (HB.out).lt_ he
            simp at hj; omega
        · exact (hw1.only.block i (by simp; omega) (by omega) hne).trans (Below.heap_alloc w _ i hi)
        · rcases hw1.row with h | ⟨j, h, hj⟩
          · exact .inl h
          · exact .inr ⟨j, h, by simp at hj; omega⟩
      have HI := Lib.hid inv1
      have HW := Lib.hid hw1
      clear inv1 hw1 HCO k0 k1 k2 k3
      go_loopw [6] (fun i wr => ∃ k v', 1 ≤ k ∧ k ≤ nb ∧ i = .int .i64 (k : Nat) ∧ Hid (CInv w.heap.size base (.slice A la.length c) (.slice (some ⟨qb, 0, none⟩) nb c') la (b0 :: rest) w wr k v')) (fun i _ => nb - (intOf i).toNat)
      case atStart => exact ⟨1, v1, by omega, by omega, rfl, HI⟩
      case round =>
        obtain ⟨k, v', hk1, hk, rfl, HI2⟩ := hrel
        obtain ⟨m, hm⟩ : ∃ m, (concF la ((b0 :: rest).take k)).length = m := ⟨_, rfl⟩
        have hml : m ≤ 700 := by
          have := concF_len la ((b0 :: rest).take k)
          have h2 : ((b0 :: rest).take k).length ≤ nb := by rw [← HNB.out]; exact List.length_take_le' _ _
          omega
        have hGl : w.heap.size < wr.heap.size := (Array.getElem?_eq_some_iff.1 HI2.out.blk).1
        have hcG : wr.cell? ⟨w.heap.size, 0, none⟩ = some v' := by rw [cell_of_row wr w.heap.size 0 _ _ (0, 0) HI2.out.blk]; rfl
        have hfG : wr.frozen? ⟨w.heap.size, 0, none⟩ = false := by simp [World.frozen?, HI2.out.blk]
        obtain ⟨A4, c4, hv4⟩ := HI2.out.own.form
        rw [hm] at hv4
        subst hv4
        obtain ⟨cvs, hcl, ho, hcs⟩ := HI2.out.own
        rw [hm] at ho
        have hbr : base ≤ wr.heap.size := by have := HI2.out.grown.size; omega
        have hne1 : some w.heap.size ≠ (Value.slice A4 m c4).ownBlock := by
          rcases ho.2 with ⟨hv, _⟩ | ⟨q, cap, cur, hv, _, hq, _⟩
          · rw [hv]; simp [Value.ownBlock]
          · rw [hv]; intro he
            have he' : w.heap.size = q := by simpa [Value.ownBlock] using he
            have hg := HI2.out.blk
            rw [he', hq] at hg
            injection hg with hg
            injection hg with _ ht
            exact absurd ht (by decide)
        have HO := Lib.hid ho
        have HCL := Lib.hid hcl
        have HCS := Lib.hid hcs
        have HM := Lib.hid hm
        clear ho hcl hcs hm
        by_cases hlt : k < nb
        · obtain ⟨qb', Ac2, cc2, hqb, hbq2, hql2, hco2, hat2⟩ := HI2.out.bown.at_ (fun _ _ => rfl) (k := k) (by rw [HNB.out]; exact hlt)
          injection hqb with hqb
          injection hqb with hqb
          subst hqb
          have hlt' : (k : Int) < (nb : Int) := by omega
          obtain ⟨e, he⟩ : ∃ e, (b0 :: rest)[k]'(by rw [HNB.out]; exact hlt) = e := ⟨_, rfl⟩
          rw [he] at hco2 hat2
          have k0 := hat2 0 _ rfl
          have k1 := hat2 1 _ rfl
          have k2 := hat2 2 _ rfl
          have k3 := hat2 3 _ rfl
          simp only [Nat.add_zero] at k0
          have HCV := Lib.hid hco2
          have HE := Lib.hid he
          clear hat2 hco2 he
          go_wp2
          go_region_law (
            first
              | (refine step_append_rowV _ (by rfl) (.tmp 26) (.tmp 31) _ (by rfl) base 58 i0 _ 4 48 Try.underlying43 hi0 hz0 hz1 hz2 rfl (by omega) (.slice A4 m c4) m (lrows fRow (concF la ((b0 :: rest).take k)) cvs) (by rfl) (HO.out.alloc _) (some ⟨wr.heap.size, 0, none⟩) 1 1 (fRow e (.slice Ac2 e.com.length cc2)) (by rfl) rfl (fun _ => ⟨_, rfl, news_at (cs := #[.slice Ac2 e.com.length cc2, .int .i64 e.kind, .int .i64 e.blanks, .int .i64 e.indent]) (by simp)⟩) (by simp [fRow, Value.oneCell']) (by unfold maxLen; omega) (by omega) (by simp; omega) ?_; intro A2 c2' w2 hap2; have hfz : w2.frozen? ⟨w.heap.size, 0, none⟩ = false := ((World.frozen?_of_block (a := ⟨w.heap.size, 0, none⟩) (hap2.grown.block w.heap.size (by simp; omega) hne1)).trans (by simp [go_sem, hGl, hfG])); have hcz : w2.cell? ⟨w.heap.size, 0, none⟩ = some (.slice A4 m c4) := hap2.grown.cell (by simp [go_sem, hGl, hcG]) hne1))
          all_goals
            have hdone := fapp_done (e := e) ((Below.refl wr.heap.size wr).drew) HI2.out.blk HM.out HCL.out HO.out HCS.out HCV.out hap2
            rw [← HE.out] at hdone
            have HS := Lib.hid (HI2.out.step HLA.out hk1 (by rw [HNB.out]; exact hlt) (Nat.le_refl _) hdone)
            clear hdone
            go_wp2
            go_roundw
            case rel => exact ⟨k + 1, _, by omega, by omega, by go_num, HS⟩
            case measure => simp [intOf]; omega
        · obtain rfl : k = nb := by omega
          go_wp2
          go_ret
          refine ⟨_, rfl, ?_, HI2.out.grown⟩
          have := HI2.out.own
          rwa [List.take_of_length_le (by rw [HNB.out]; exact Nat.le_refl _)] at this
end Go.Proofs.Ytlbgmcpjdfoalaa
