/- dull, impl.FodderConcat, ast.FodderMoveFront, impl.FodderMove. -/
import Derived.Test.YtlbgmcpjdfoalaaConcG
import Derived.Test.YtlbgmcpjdfoalaaGood
namespace Go.Proofs.Ytlbgmcpjdfoalaa
open Go.RowKit

def DullP (la lb : List El) (w : World) (e : Ending) (w' : World) : Prop := ∃ b, e = .returned (.bool b) ∧ (b = false → NotDull la lb) ∧ w = w'

set_option maxHeartbeats 400000 in
theorem dullx_any (v v' : Value) (es es' : List El) (w : World) (B : Nat) (h1 : ElsV w B v es) (h2 : ElsV w B v' es') (l1 : es.length ≤ 9223372036854775807) (l2 : es'.length ≤ 9223372036854775807) :
    Calls Try.prog 7 #[v, v'] w (DullP es es' w) := by
  by_cases hnd : NotDull es es'
  · exact (dull_any v v' es es' w B h1 h2 l1 l2).mono fun e w' ⟨b, he, hw⟩ => ⟨b, he, (fun _ => hnd), hw⟩
  · have e1 : 0 < es.length := by
      rcases Nat.eq_zero_or_pos es.length with h | h
      · exact absurd (.inl h) hnd
      · exact h
    have k1 : (es[es.length - 1]'(by omega)).kind = 1 := by
      rcases Classical.em ((es[es.length - 1]'(by omega)).kind = 1) with h | h
      · exact h
      · exact absurd (.inr (.inl (by rw [cleanB_last (by omega)]; simpa using h))) hnd
    obtain ⟨e2, k2⟩ : ∃ h : 0 < es'.length, (es'[0]'h).kind = 2 := by
      rcases Classical.em (∃ h : 0 < es'.length, (es'[0]'h).kind = 2) with h | h
      · exact h
      · refine absurd (.inr (.inr fun b0 hb => ?_)) hnd
        obtain ⟨hh, rfl⟩ := List.getElem?_eq_some_iff.1 hb
        simpa using fun hk => h ⟨hh, hk⟩
    obtain ⟨A, c, rfl⟩ := h1.form
    obtain ⟨A', c', rfl⟩ := h2.form
    obtain ⟨b, off, Ac, cc, rfl, hbB, hcv, c0, c1, c2, c3⟩ := h1.at_ (k := es.length - 1) (by omega)
    obtain ⟨b', off', Ac', cc', rfl, hbB', hcv', c0', c1', c2', c3'⟩ := h2.at_ e2
    rw [k1] at c0
    rw [k2] at c0'
    clear h1 h2 hcv hcv' c1 c2 c3 c1' c2' c3' k1 k2 hnd
    simp only [Nat.zero_mul, Nat.add_zero] at c0'
    go_enter Try.func7, Try.ntmps7
    go_wp2
    all_goals (go_ret; exact ⟨true, rfl, (fun h => by cases h), rfl⟩)

def IConc (la lb : List El) (w : World) (e : Ending) (w' : World) : Prop := ∃ v', e = .returned (.tuple #[v', .bool true]) ∧ LOwn 39 eRow w' w.heap.size v' (concF la lb) ∧ Below w.heap.size w w'

theorem conc_small {la lb : List El} (ha : GoodEls la) (hb : GoodEls lb) : SmallEls (concF la lb) := by
  refine ⟨by have := concF_len la lb; have := ha.1; have := hb.1; omega, ?_⟩
  have h1 : ∀ e ∈ la, e.com.length ≤ 1000 := fun e he => by have := (elemB_kind (ha.2 e he)).2.2; omega
  have h2 : ∀ e ∈ lb, e.com.length ≤ 1000 := fun e he => by have := (elemB_kind (hb.2 e he)).2.2; omega
  unfold concF
  split
  · exact h2
  · cases lb with
    | nil => exact h1
    | cons b r =>
      intro e he
      rw [List.mem_append] at he
      rcases he with he | he
      · exact appendF_com h1 (h2 b (by simp)) e he
      · exact h2 e (by simp [he])

theorem LOwn.ge_ {T : TypeId} {row : El → Value → List Value} {w : World} {base : Nat} {v : Value} {es : List El} (h : LOwn T row w base v es) {k : Nat} (hk : v.ownBlock = some k) : base ≤ k := by
  obtain ⟨_, _, ho, _⟩ := h
  exact (ho.lt k hk).1
theorem fod_ne {w : World} {g base : Nat} {x v : Value} {es : List El} (hg : w.heap[g]? = some (.cells #[x] 43 (0, 0))) (h : LOwn 58 fRow w base v es) : some g ≠ v.ownBlock := by
  obtain ⟨_, _, ho, _⟩ := h
  rcases ho.2 with ⟨rfl, _⟩ | ⟨q, cap, cur, rfl, _, hq, _⟩
  · simp [Value.ownBlock]
  · intro he
    have : g = q := by simpa [Value.ownBlock] using he
    subst this
    rw [hq] at hg
    injection hg with hg
    injection hg with _ ht
    exact absurd ht (by decide)
theorem made_apart2 {w w1 w2 : World} {v1 v2 : Value} {l1 l2 : List El} (h1 : LOwn 58 fRow w1 w.heap.size v1 l1) (h2 : LOwn 58 fRow w2 w1.heap.size v2 l2) : v2.ownBlock = none ∨ v2.ownBlock ≠ v1.ownBlock := by
  cases hv : v2.ownBlock with
  | none => exact .inl rfl
  | some k =>
    right
    intro he
    have := h1.lt_ he.symm
    have := h2.ge_ hv
    omega
/-- Two lists made one behind the other lie in rows of their own. -/
theorem made_apart {w w1 w2 : World} {v1 v2 : Value} {l1 l2 : List El} (h1 : LOwn 58 fRow w1 w.heap.size v1 l1) (h2 : LOwn 58 fRow w2 w1.heap.size v2 l2) : v1.ownBlock = none ∨ v1.ownBlock ≠ v2.ownBlock := by
  cases hv : v1.ownBlock with
  | none => exact .inl rfl
  | some k =>
    right
    intro he
    have := h1.lt_ hv
    obtain ⟨_, _, o2, _⟩ := h2
    have := (o2.lt k he.symm).1
    omega

theorem made_apart_lt {w1 w2 w3 : World} {b2 : Nat} {v1 v2 : Value} {l1 l2 : List El} (h1 : LOwn 58 fRow w1 b2 v1 l1) (h2 : LOwn 58 fRow w3 w2.heap.size v2 l2) (h : w1.heap.size ≤ w2.heap.size) : v1.ownBlock = none ∨ v1.ownBlock ≠ v2.ownBlock := by
  cases hv : v1.ownBlock with
  | none => exact .inl rfl
  | some k =>
    right
    intro he
    have := h1.lt_ hv
    have := h2.ge_ he.symm
    omega

set_option maxRecDepth 100000 in
set_option maxHeartbeats 2000000 in
theorem iconc_any (va vb : Value) (la lb : List El) (w : World) (ha : ElsV w w.heap.size va la) (hb : ElsV w w.heap.size vb lb) (ga : GoodEls la) (gb : GoodEls lb) (hd : NotDull la lb) :
    Calls Try.prog 9 #[va, vb] w (IConc la lb w) := by
  have HA := Lib.hid ha
  have HB := Lib.hid hb
  have GA := Lib.hid ga
  have GB := Lib.hid gb
  have HD := Lib.hid hd
  clear ha hb ga gb hd
  go_enter Try.func9, Try.ntmps9
  go_wp2_with fail
  refine (ifodder_any va la _ HA.out GA.out).mono ?_
  rintro e w1 ⟨v1, rfl, ho1, hb1⟩
  obtain ⟨A1, c1, rfl⟩ := ho1.form
  have HO1 := Lib.hid ho1
  clear ho1
  go_wp2_with fail
  refine (ifodder_any vb lb _ ((HB.out.below hb1 (Nat.le_refl _)).mono_ hb1.size) GB.out).mono ?_
  rintro e w2 ⟨v2, rfl, ho2, hb2⟩
  obtain ⟨A2, c2, rfl⟩ := ho2.form
  have HO2 := Lib.hid ho2
  clear ho2
  go_wp2_with fail
  have hsz := hb1.size
  have hsz2 := hb2.size
  refine (concat_any w.heap.size _ _ la lb _ (HO1.out.below hb2) (HO2.out.base_le hsz) (made_apart2 HO1.out HO2.out) (by omega) (by have := GA.out.1; omega) (by have := GB.out.1; omega) (good_small GB.out).2 HD.out).mono ?_
  rintro e w3 ⟨v3, rfl, ho3, hb3⟩
  have hbw : Below w.heap.size w w3 := (hb1.trans (hb2.mono hsz)).grown hb3 (by omega) (fun k hk => (HO1.out.ge_ hk))
  obtain ⟨A3, c3, rfl⟩ := ho3.form
  have HO3 := Lib.hid ho3
  clear ho3
  go_wp2_with fail
  refine (elements_any _ (concF la lb) _ HO3.out.readF (conc_small GA.out GB.out)).mono ?_
  rintro e w4 ⟨v4, rfl, ho4, hb4⟩
  obtain ⟨A4, c4, rfl⟩ := ho4.form
  have HO4 := Lib.hid ho4
  clear ho4
  go_wp2
  go_ret2
  exact ⟨_, rfl, HO4.out.base_le (by have := hbw.size; omega), hbw.trans (hb4.mono hbw.size)⟩

theorem LOwn.setFod {T : TypeId} {row : El → Value → List Value} {w : World} {base g : Nat} {v : Value} {es : List El} {cs : Array Value} (h : LOwn T row w base v es) (hg : w.heap[g]? = some (.cells cs 43 (0, 0))) (hT : T ≠ 43) (u : Value) :
    LOwn T row (w.setCell ⟨g, 0, none⟩ u) base v es :=
  h.only (b2 := base) (va := .slice none 0 0) (World.ownsRow_nil _ _ _ _) (Only.set ⟨rfl, rfl, rfl, Nat.le_refl _, fun _ _ _ _ => rfl⟩ 0 u) hg hT (by
    cases hv : v.ownBlock with
    | none => exact .inl rfl
    | some k => exact .inr (by simp [Value.ownBlock]))
theorem no_small : SmallEls [] := ⟨by simp, by simp⟩

/-- What FodderMoveFront leaves: the first one's block holds both, the second one's an empty slice. -/
def MoveP (ga gb base : Nat) (vb : Value) (la lb : List El) (w : World) (e : Ending) (w' : World) : Prop :=
  ∃ v' w1, e = .returned (.tuple #[]) ∧ LOwn 58 fRow w1 base v' (concF lb la) ∧ w.drew.grownBy w1 vb.ownBlock ∧
    w' = ((w1.setCell ⟨ga, 0, none⟩ v').setCell ⟨gb, 0, none⟩ (.slice (some ⟨w1.heap.size, 0, none⟩) 0 0)).alloc (.cells #[] 58)

set_option maxRecDepth 100000 in
set_option maxHeartbeats 2000000 in
theorem moveFront_any (ga gb base : Nat) (va vb : Value) (la lb : List El) (w : World) (hga : w.heap[ga]? = some (.cells #[va] 43 (0, 0))) (hgb : w.heap[gb]? = some (.cells #[vb] 43 (0, 0))) (hne : ga ≠ gb)
    (ha : LOwn 58 fRow w base va la) (hb : LOwn 58 fRow w base vb lb) (hap : va.ownBlock = none ∨ va.ownBlock ≠ vb.ownBlock) (hbase : base ≤ w.heap.size)
    (hla : la.length ≤ 300) (hlb : lb.length ≤ 300) (hca : ∀ e ∈ la, e.com.length ≤ 1000) (hd : NotDull lb la) :
    Calls Try.prog 35 #[.pointer (some ⟨ga, 0, none⟩), .pointer (some ⟨gb, 0, none⟩)] w (MoveP ga gb base vb la lb w) := by
  have hal : ga < w.heap.size := (Array.getElem?_eq_some_iff.1 hga).1
  have hbl : gb < w.heap.size := (Array.getElem?_eq_some_iff.1 hgb).1
  have ca : w.cell? ⟨ga, 0, none⟩ = some va := by rw [cell_of_row w ga 0 _ _ (0, 0) hga]; rfl
  have cb : w.cell? ⟨gb, 0, none⟩ = some vb := by rw [cell_of_row w gb 0 _ _ (0, 0) hgb]; rfl
  have fa : w.frozen? ⟨ga, 0, none⟩ = false := by simp [World.frozen?, hga]
  have fb : w.frozen? ⟨gb, 0, none⟩ = false := by simp [World.frozen?, hgb]
  obtain ⟨A, c, rfl⟩ := ha.form
  obtain ⟨A', c', rfl⟩ := hb.form
  have nb1 := fod_ne hga hb
  have nb2 := fod_ne hgb hb
  have HA := Lib.hid ha
  have HB := Lib.hid hb
  have HAP := Lib.hid hap
  have HD := Lib.hid hd
  have HCA := Lib.hid hca
  clear ha hb hap hd hca hga hgb
  go_enter Try.func35, Try.ntmps35
  go_wp2
  go_region_law (go_simp; go_at_call 22; refine (concat_any base _ _ lb la _ (LOwn.drew HB.out) (LOwn.drew HA.out) HAP.out hbase hlb hla HCA.out HD.out).mono ?_; rintro e w1 ⟨v1, rfl, ho1, hg1⟩; have HO1 := Lib.hid ho1; have HG1 := Lib.hid hg1; have hs1 := hg1.size; have da := (hg1.cell (show w.drew.cell? ⟨ga, 0, none⟩ = _ from ca) nb1); have db := (hg1.cell (show w.drew.cell? ⟨gb, 0, none⟩ = _ from cb) nb2); have dfa := (World.frozen?_of_block (a := ⟨ga, 0, none⟩) (hg1.block ga hal nb1)).trans fa; have dfb := (World.frozen?_of_block (a := ⟨gb, 0, none⟩) (hg1.block gb hbl nb2)).trans fb; obtain ⟨A1, c1, rfl⟩ := ho1.form; clear ho1 hg1)
  all_goals
    have hne1 : ¬ ga = gb := hne
    have hne2 : ¬ gb = ga := Ne.symm hne
    have hl1 : gb < w1.heap.size := by simp at hs1; omega
    go_wp2
    go_end0
    exact ⟨_, w1, rfl, HO1.out, HG1.out, rfl⟩
end Go.Proofs.Ytlbgmcpjdfoalaa
