/- Fodder of the call's own making; the contract of impl.fodder. -/
import Derived.Test.YtlbgmcpjdfoalaaElC
import Derived.Test.YtlbgmcpjdfoalaaOwn
namespace Go.Proofs.Ytlbgmcpjdfoalaa
open Go.RowKit

theorem fod_info : (Try.prog.info? 58).map (fun i => (i.zero, i.size, i.bytes)) = some (some (.agg #[.slice none 0 0, .int .i64 0, .int .i64 0, .int .i64 0]), 4, 48) := by kernel_rfl
theorem str_info : (Try.prog.info? 9).map (fun i => (i.zero, i.size, i.bytes)) = some (some (.string ⟨#[]⟩), 1, 16) := by kernel_rfl

def fRow (e : El) (cv : Value) : List Value := [cv, .int .i64 e.kind, .int .i64 e.blanks, .int .i64 e.indent]
def lrows (row : El → Value → List Value) (es : List El) (cvs : List Value) : List Value := (es.zip cvs).flatMap fun p => row p.1 p.2
theorem lrows_len (row : El → Value → List Value) (hr : ∀ e cv, (row e cv).length = 4) : ∀ (es : List El) (cvs : List Value), cvs.length = es.length → (lrows row es cvs).length = es.length * 4
  | [], [], _ => rfl
  | e :: es, c :: cvs, h => by
    have := lrows_len row hr es cvs (by simpa using h)
    simp only [lrows, List.zip_cons_cons, List.flatMap_cons, List.length_append] at this ⊢
    rw [this, List.length_cons, hr]
    omega
  | [], _ :: _, h => by simp at h
  | _ :: _, [], h => by simp at h
theorem lrows_snoc (row : El → Value → List Value) (es : List El) (cvs : List Value) (e : El) (cv : Value) (h : cvs.length = es.length) : lrows row (es ++ [e]) (cvs ++ [cv]) = lrows row es cvs ++ row e cv := by
  simp [lrows, List.zip_append h.symm]
theorem lrows_at (row : El → Value → List Value) (hr : ∀ e cv, (row e cv).length = 4) : ∀ (es : List El) (cvs : List Value), cvs.length = es.length → ∀ k e, es[k]? = some e → ∃ cv, (e, cv) ∈ es.zip cvs ∧ ∀ j, j < 4 → (lrows row es cvs)[k * 4 + j]? = (row e cv)[j]?
  | [], _, _ => fun k e h => by simp at h
  | x :: es, c :: cvs, h => fun k e he => by
    rcases k with _ | k
    · simp at he; subst he
      refine ⟨c, by simp, fun j hj => ?_⟩
      simp only [lrows, List.zip_cons_cons, List.flatMap_cons]
      rw [List.getElem?_append_left (by rw [hr]; omega)]
      congr 1; omega
    · obtain ⟨cv, hm, hc⟩ := lrows_at row hr es cvs (by simpa using h) k e (by simpa using he)
      refine ⟨cv, by simp [hm], fun j hj => ?_⟩
      simp only [lrows, List.zip_cons_cons, List.flatMap_cons]
      rw [List.getElem?_append_right (by rw [hr]; omega), hr, ← hc j hj]
      simp only [lrows]
      congr 1; omega
  | _ :: _, [], h => by simp at h

/-- A list of elements that lies in rows of the call's own, from block base on: rows of type T, each comment in a row of strings. -/
def LOwn (T : TypeId) (row : El → Value → List Value) (w : World) (base : Nat) (v : Value) (es : List El) : Prop :=
  ∃ cvs : List Value, cvs.length = es.length ∧ w.ownsRow base T 4 v es.length (lrows row es cvs) ∧ ∀ p ∈ es.zip cvs, w.ownsRow base 9 1 p.2 p.1.com.length (strs p.1.com)

theorem own_apart {w : World} {b1 b2 : Nat} {e1 e2 : TypeId} {s1 s2 n1 n2 : Nat} {v1 v2 : Value} {x1 x2 : List Value} (h1 : w.ownsRow b1 e1 s1 v1 n1 x1) (h2 : w.ownsRow b2 e2 s2 v2 n2 x2) (hne : e1 ≠ e2) :
    v1.ownBlock = none ∨ v1.ownBlock ≠ v2.ownBlock := by
  rcases h1.2 with ⟨rfl, _⟩ | ⟨g, cap, cur, rfl, _, hg, _⟩
  · exact .inl rfl
  · right
    rcases h2.2 with ⟨rfl, _⟩ | ⟨g', cap', cur', rfl, _, hg', _⟩
    · simp [Value.ownBlock]
    · intro he
      have e : g = g' := by simpa [Value.ownBlock] using he
      subst e
      rw [hg] at hg'
      injection hg' with hg'
      injection hg' with _ ht
      exact hne ht

theorem grown_over {w w1 w2 : World} {g : Nat} (hb : Below w.heap.size w w1) (hg : w1.grownBy w2 (some g)) (h : w.heap.size ≤ g) : w.grownBy w2 none :=
  ⟨hg.os.trans hb.os, hg.tape.trans hb.tape, hg.output.trans hb.output, Nat.le_trans hb.size hg.size, fun i hi _ => (hg.block i (Nat.lt_of_lt_of_le hi hb.size) (by intro e; injection e; omega)).trans (hb.block i hi)⟩
theorem LOwn.nil (T : TypeId) (row : El → Value → List Value) (w : World) (base : Nat) : LOwn T row w base (.slice none 0 0) [] := ⟨[], rfl, World.ownsRow_nil _ _ _ _, by simp⟩
section
variable {T : TypeId} {row : El → Value → List Value}
theorem LOwn.form {w : World} {base : Nat} {v : Value} {es : List El} (h : LOwn T row w base v es) : ∃ A c, v = .slice A es.length c := by
  obtain ⟨_, _, h, _⟩ := h; exact own_form h
/-- Kept where there are but new blocks. -/
theorem LOwn.kept {w w' : World} {base : Nat} {v : Value} {es : List El} (h : LOwn T row w base v es) (hg : w.grownBy w' none) : LOwn T row w' base v es := by
  obtain ⟨cvs, hl, ho, hc⟩ := h
  exact ⟨cvs, hl, ho.kept hg (by cases v.ownBlock <;> simp), fun p hp => (hc p hp).kept hg (by cases p.2.ownBlock <;> simp)⟩
theorem LOwn.alloc {w : World} {base : Nat} {v : Value} {es : List El} (h : LOwn T row w base v es) (o : Obj) : LOwn T row (w.alloc o) base v es := h.kept (World.grownBy_alloc w o none)
theorem LOwn.drew {w : World} {base : Nat} {v : Value} {es : List El} (h : LOwn T row w base v es) : LOwn T row w.drew base v es := h
theorem grown_of_below {w w' : World} (h : Below w.heap.size w w') : w.grownBy w' none := ⟨h.os, h.tape, h.output, h.size, fun k hk _ => h.block k hk⟩
theorem LOwn.below {w w' : World} {base : Nat} {v : Value} {es : List El} (h : LOwn T row w base v es) (hb : Below w.heap.size w w') : LOwn T row w' base v es := h.kept (grown_of_below hb)
theorem LOwn.base_le {w : World} {base b : Nat} {v : Value} {es : List El} (h : LOwn T row w base v es) (hb : b ≤ base) : LOwn T row w b v es := by
  obtain ⟨cvs, hl, ho, hc⟩ := h
  have lower : ∀ {e : TypeId} {s n : Nat} {u : Value} {xs : List Value}, w.ownsRow base e s u n xs → w.ownsRow b e s u n xs := fun h => ⟨h.1, h.2.imp id fun ⟨g, cap, cur, h1, h2, h3⟩ => ⟨g, cap, cur, h1, by omega, h3⟩⟩
  exact ⟨cvs, hl, lower ho, fun p hp => lower (hc p hp)⟩

/-- One element more, its comment lying in a row of its own. -/
theorem lown_push (hT : T ≠ 9) {w w' : World} {base n : Nat} {v : Value} {es : List El} {cvs : List Value} {e : El} {cv : Value} {A : Option Addr} {c : Nat} (hcl : cvs.length = es.length) (hn : es.length = n)
    (hv : w.ownsRow base T 4 v n (lrows row es cvs)) (hcs : ∀ p ∈ es.zip cvs, w.ownsRow base 9 1 p.2 p.1.com.length (strs p.1.com)) (hcv : w.ownsRow base 9 1 cv e.com.length (strs e.com))
    (hg : w.grownBy w' v.ownBlock) (ho : w'.ownsRow base T 4 (.slice A (n + 1) c) (n + 1) (lrows row es cvs ++ row e cv)) :
    LOwn T row w' base (.slice A (n + 1) c) (es ++ [e]) := by
  subst hn
  refine ⟨cvs ++ [cv], by simp [hcl], ?_, fun p hp => ?_⟩
  · rw [lrows_snoc _ _ _ _ _ hcl, List.length_append]
    exact ho
  · rw [List.zip_append hcl.symm, List.mem_append] at hp
    rcases hp with hp | hp
    · exact (hcs p hp).kept hg (own_apart (hcs p hp) hv (Ne.symm hT))
    · simp at hp
      subst hp
      exact hcv.kept hg (own_apart hcv hv (Ne.symm hT))

/-- An owned list, element by element: its row's cells, and its comment. -/
theorem LOwn.at_ (hr : ∀ e cv, (row e cv).length = 4) {w : World} {base : Nat} {A : Option Addr} {n c : Nat} {es : List El} (h : LOwn T row w base (.slice A n c) es) {k : Nat} (hk : k < es.length) :
    ∃ g Ac cc, A = some ⟨g, 0, none⟩ ∧ base ≤ g ∧ g < w.heap.size ∧ w.ownsRow base 9 1 (.slice Ac (es[k]'hk).com.length cc) (es[k]'hk).com.length (strs (es[k]'hk).com) ∧
      ∀ j u, (row (es[k]'hk) (.slice Ac (es[k]'hk).com.length cc))[j]? = some u → w.cell? ⟨g, k * 4 + j, none⟩ = some u := by
  obtain ⟨cvs, hl, ho, hc⟩ := h
  obtain ⟨cv, hm, hat⟩ := lrows_at row hr es cvs hl k _ (List.getElem?_eq_getElem hk)
  have hcv := hc _ hm
  dsimp only at hcv
  obtain ⟨Ac, cc, rfl⟩ := own_form hcv
  rcases ho.2 with ⟨hv, h0⟩ | ⟨g, cap, cur, hv, hb, hg, _⟩
  · omega
  · have hv' := hv
    injection hv with h1 h2 h3
    refine ⟨g, Ac, cc, h1, hb, (Array.getElem?_eq_some_iff.1 hg).1, hcv, fun j u hu => ?_⟩
    have hj : j < 4 := by
      have := (List.getElem?_eq_some_iff.1 hu).1; rw [hr] at this; exact this
    subst h1
    have := ho.cells (g := g) (by simp [Value.ownBlock]) (k * 4 + j) u (by rw [hat j hj]; exact hu)
    rwa [add_plain', Nat.zero_add] at this
end

def IFod (es : List El) (w : World) (e : Ending) (w' : World) : Prop := ∃ v', e = .returned (.tuple #[v', .bool true]) ∧ LOwn 58 fRow w' w.heap.size v' es ∧ Below w.heap.size w w'

set_option maxRecDepth 100000 in
set_option maxHeartbeats 2000000 in
theorem ifodder_any (v : Value) (es : List El) (w : World) (h1 : ElsV w w.heap.size v es) (hg : GoodEls es) :
    Calls Try.prog 19 #[v] w (IFod es w) := by
  obtain ⟨i0, hi0, hz0, hz1, hz2⟩ := info_parts fod_info
  obtain ⟨j0, hj0, jz0, jz1, jz2⟩ := info_parts str_info
  obtain ⟨A, c, rfl⟩ := h1.form
  have H1 := Lib.hid h1
  have HG := Lib.hid hg
  have hlen := hg.1
  clear h1 hg
  go_enter Try.func19, Try.ntmps19
  go_wp2
  go_loopw [4, 9] (fun v i wr => ∃ k : Nat, k ≤ es.length ∧ i = .int .i64 k ∧ LOwn 58 fRow wr w.heap.size v (es.take k) ∧ Below w.heap.size w wr) (fun _ i _ => es.length - (intOf i).toNat)
  case atStart => exact ⟨0, Nat.zero_le _, rfl, LOwn.nil _ _ _ _, Below.refl _ _⟩
  case round =>
    obtain ⟨k, hk, rfl, hown, hb⟩ := hrel
    by_cases hlt : k < es.length
    · obtain ⟨b, off, Ac, cc, rfl, hbB, hcv, c0, c1, c2, c3⟩ := (H1.out.below hb (Nat.le_refl _)).at_ hlt
      have hlt' : (k : Int) < (es.length : Int) := by omega
      have hkind := elemB_kind (HG.out.2 _ (List.getElem_mem hlt))
      have hk1 := hkind.1
      have hk2 := hkind.2.1
      have hk3 := hkind.2.2
      have hsz := hb.size
      obtain ⟨A4, c4, rfl⟩ := hown.form
      have htl : (es.take k).length = k := by simp; omega
      rw [htl] at hown ⊢
      have HO := Lib.hid hown
      clear hown hkind
      go_wp2
      have hBW : w.heap.size ≤ wr.heap.size + 1 := by omega
      have hbel7 : Below wr.heap.size wr ((wr.alloc (.cells #[.int .i64 es[k].kind, .int .i64 es[k].blanks, .int .i64 es[k].indent, .slice Ac es[k].com.length cc] 39)).alloc (.cells #[] 9)).drew := (((Below.refl _ _).alloc (Nat.le_refl _) _).alloc (by simp) _).drew
      have hown7 : ((wr.alloc (.cells #[.int .i64 es[k].kind, .int .i64 es[k].blanks, .int .i64 es[k].indent, .slice Ac es[k].com.length cc] 39)).alloc (.cells #[] 9)).drew.ownsRow w.heap.size 9 1 (.slice (some ⟨wr.heap.size + 1, 0, none⟩) 0 0) 0 [] := by
        have h := World.ownsRow_made (wr.alloc (.cells #[.int .i64 es[k].kind, .int .i64 es[k].blanks, .int .i64 es[k].indent, .slice Ac es[k].com.length cc] 39)) #[] 0 (base := w.heap.size) (e := 9) (size := 1) (by simp; omega) (by unfold maxLen; omega) rfl
        rw [World.size_alloc] at h
        exact h
      have hsrc7 := (RowV.src (hcv.below hbel7 hsz)).2
      have hone : ∀ u ∈ strs es[k].com, u.oneCell' = true := by
        intro u hu; simp only [strs, List.mem_map] at hu; obtain ⟨s, _, rfl⟩ := hu; rfl
      have hl7 : (strs es[k].com).length = es[k].com.length * 1 := by simp [strs]
      have HA := Lib.hid hown7
      have HB := Lib.hid hsrc7
      have HC := Lib.hid hone
      have HD := Lib.hid hl7
      have HE := Lib.hid hbel7
      clear hown7 hsrc7 hone hl7 hbel7
      obtain ⟨cvs, hcl, ho4, hcs⟩ := HO.out
      rw [htl] at ho4
      have hne4 : (Value.slice A4 k c4).ownBlock ≠ some wr.heap.size := by
        intro h; have := (ho4.lt _ h).2; omega
      have HO4 := Lib.hid ho4
      have HCS := Lib.hid hcs
      have HCL := Lib.hid hcl
      clear ho4 hcs hcl
      go_region_held3 (fun w' => w'.cell? ⟨wr.heap.size, 0, none⟩ = some (.int .i64 es[k].kind) ∧ w'.cell? ⟨wr.heap.size, 1, none⟩ = some (.int .i64 es[k].blanks) ∧ w'.cell? ⟨wr.heap.size, 2, none⟩ = some (.int .i64 es[k].indent) ∧ w'.cell? ⟨wr.heap.size, 3, none⟩ = some (.slice Ac es[k].com.length cc))
        (first
          | go_keep
          | ((try dsimp only); refine ⟨?_, ?_, ?_, ?_⟩ <;> first | go_keep | (refine hap2.grown.cell ?_ (Ne.symm hne4); first | assumption | go_keep) | (refine hap1.grown.cell ?_ (by simp [Value.ownBlock]); simp [go_sem])))
        (first
          | (refine step_append_rowV _ (by rfl) (.tmp 21) (.tmp 33) _ (by rfl) w.heap.size 58 i0 _ 4 48 Try.underlying43 hi0 hz0 hz1 hz2 rfl (by omega) (.slice A4 k c4) k (lrows fRow (es.take k) cvs) (by rfl) (HO1.out.alloc _) (some ⟨w1.heap.size, 0, none⟩) 1 1 (fRow es[k] (.slice A1 es[k].com.length c1')) (by rfl) rfl (fun _ => ⟨_, rfl, World.news_of_block (cs := #[.slice A1 es[k].com.length c1', .int .i64 es[k].kind, .int .i64 es[k].blanks, .int .i64 es[k].indent]) (t := 58) (fr := (0, 0)) (heap_alloc_new w1 _)⟩) (by simp [fRow, Value.oneCell']) (by unfold maxLen; omega) (by omega) (by simp; omega) ?_; intro A2 c2' w2 hap2)
          | (refine step_append_rowV _ (by rfl) (.tmp 28) (.tmp 30) _ (by rfl) w.heap.size 9 j0 _ 1 16 Try.underlying30 hj0 jz0 jz1 jz2 rfl (by omega) _ 0 [] (by rfl) HA.out Ac es[k].com.length cc (strs es[k].com) (by rfl) HD.out HB.out HC.out (by unfold maxLen; omega) (by omega) (by simp; omega) ?_; intro A1 c1' w1 hap1; have g1 := grown_over HE.out hap1.grown (by simp); have HO1 := Lib.hid (HO4.out.kept g1 (by cases (Value.slice A4 k c4).ownBlock <;> simp)); have hs1 : wr.heap.size + 2 ≤ w1.heap.size := (by have := hap1.grown.size; simpa using this)))
      have gw : Below w.heap.size w w2 := ((hb.grown g1 hsz (by simp)).alloc (by omega) _).grown hap2.grown (by simp; omega) (fun g hgg => (HO4.out.lt g hgg).1)
      have hfin : LOwn 58 fRow w2 w.heap.size (.slice A2 (k + 1) c2') (es.take (k + 1)) := by
        rw [List.take_succ_eq_append_getElem hlt]
        refine lown_push (by decide) (w := w1.alloc (.cells #[.slice A1 es[k].com.length c1', .int .i64 es[k].kind, .int .i64 es[k].blanks, .int .i64 es[k].indent] 58)) (v := .slice A4 k c4) HCL.out htl (HO1.out.alloc _) (fun p hp => ((HCS.out p hp).kept g1 (by cases p.2.ownBlock <;> simp)).alloc _) ?_ hap2.grown hap2.own
        have := hap1.own
        simp only [Nat.zero_add, List.nil_append] at this
        exact this.alloc _
      have HFIN := Lib.hid hfin
      clear hfin
      go_wp2
      go_roundw
      case rel => exact ⟨k + 1, by omega, by go_num, HFIN.out, gw⟩
      case measure => simp [intOf]; omega
    · obtain rfl : k = es.length := by omega
      obtain ⟨A4, c4, rfl⟩ := hown.form
      have HO := Lib.hid hown
      clear hown
      go_wp2
      go_ret2
      exact ⟨_, rfl, by simpa [List.take_length] using HO.out, hb⟩

/-- A list of fodder elements that can be read, below block B. -/
def FodV (w : World) (B : Nat) (v : Value) (es : List El) : Prop :=
  ∃ A c, v = .slice A es.length c ∧ (0 < es.length → ∃ b off, A = some ⟨b, off, none⟩ ∧ b < B ∧ ∀ k e, es[k]? = some e → ∃ cv, RowV w B cv (strs e.com) ∧
    w.cell? ⟨b, off + k * 4, none⟩ = some cv ∧ w.cell? ⟨b, off + k * 4 + 1, none⟩ = some (.int .i64 e.kind) ∧
    w.cell? ⟨b, off + k * 4 + 2, none⟩ = some (.int .i64 e.blanks) ∧ w.cell? ⟨b, off + k * 4 + 3, none⟩ = some (.int .i64 e.indent))
theorem FodV.keep {w w' : World} {B : Nat} {v : Value} {es : List El} (h : FodV w B v es) (hk : ∀ b o, b < B → w'.cell? ⟨b, o, none⟩ = w.cell? ⟨b, o, none⟩) : FodV w' B v es := by
  obtain ⟨A, c, hv, h⟩ := h
  refine ⟨A, c, hv, fun hn => ?_⟩
  obtain ⟨b, off, hA, hb, hc⟩ := h hn
  refine ⟨b, off, hA, hb, fun k e he => ?_⟩
  obtain ⟨cv, h0, h1, h2, h3, h4⟩ := hc k e he
  exact ⟨cv, h0.keep hk, (hk _ _ hb).trans h1, (hk _ _ hb).trans h2, (hk _ _ hb).trans h3, (hk _ _ hb).trans h4⟩
theorem FodV.below {w w' : World} {B B' : Nat} {v : Value} {es : List El} (h : FodV w B v es) (hb : Below B' w w') (hB : B ≤ B') : FodV w' B v es :=
  h.keep fun b o h => hb.cell (p := ⟨b, o, none⟩) (Nat.lt_of_lt_of_le h hB)
theorem FodV.form {w : World} {B : Nat} {v : Value} {es : List El} (h : FodV w B v es) : ∃ A c, v = .slice A es.length c := by
  obtain ⟨A, c, rfl, _⟩ := h
  exact ⟨A, c, rfl⟩
theorem FodV.at_ {w : World} {B : Nat} {A : Option Addr} {n c : Nat} {es : List El} (h : FodV w B (.slice A n c) es) {k : Nat} (hk : k < es.length) :
    ∃ b off Ac cc, A = some ⟨b, off, none⟩ ∧ b < B ∧ RowV w B (.slice Ac (es[k]'hk).com.length cc) (strs (es[k]'hk).com) ∧
      w.cell? ⟨b, off + k * 4, none⟩ = some (.slice Ac (es[k]'hk).com.length cc) ∧ w.cell? ⟨b, off + k * 4 + 1, none⟩ = some (.int .i64 (es[k]'hk).kind) ∧
      w.cell? ⟨b, off + k * 4 + 2, none⟩ = some (.int .i64 (es[k]'hk).blanks) ∧ w.cell? ⟨b, off + k * 4 + 3, none⟩ = some (.int .i64 (es[k]'hk).indent) := by
  obtain ⟨A', c', hv, h⟩ := h
  obtain ⟨b, off, hA, hb, hc⟩ := h (by omega)
  obtain ⟨cv, hcv, c0, c1, c2, c3⟩ := hc k _ (List.getElem?_eq_getElem hk)
  obtain ⟨Ac, cc, rfl⟩ := hcv.form
  injection hv with h1
  exact ⟨b, off, Ac, cc, h1.trans hA, hb, hcv, c0, c1, c2, c3⟩

theorem LOwn.readF {w : World} {base : Nat} {v : Value} {es : List El} (h : LOwn 58 fRow w base v es) : FodV w w.heap.size v es := by
  obtain ⟨A, c, rfl⟩ := h.form
  refine ⟨A, c, rfl, fun hn => ?_⟩
  obtain ⟨g, _, _, hA, _, hg, _⟩ := h.at_ (fun _ _ => rfl) (k := 0) hn
  refine ⟨g, 0, hA, hg, fun k e he => ?_⟩
  obtain ⟨hk, rfl⟩ := List.getElem?_eq_some_iff.1 he
  obtain ⟨g', Ac, cc, hA', _, _, hcv, hc⟩ := h.at_ (fun _ _ => rfl) hk
  obtain rfl : g = g' := by rw [hA] at hA'; injection hA' with h; injection h
  exact ⟨_, own_rowV hcv, by simpa using hc 0 _ rfl, by simpa using hc 1 _ rfl, by simpa using hc 2 _ rfl, by simpa using hc 3 _ rfl⟩
theorem LOwn.readE {w : World} {base : Nat} {v : Value} {es : List El} (h : LOwn 39 eRow w base v es) : ElsV w w.heap.size v es := by
  obtain ⟨A, c, rfl⟩ := h.form
  refine ⟨A, c, rfl, fun hn => ?_⟩
  obtain ⟨g, _, _, hA, _, hg, _⟩ := h.at_ (fun _ _ => rfl) (k := 0) hn
  refine ⟨g, 0, hA, hg, fun k e he => ?_⟩
  obtain ⟨hk, rfl⟩ := List.getElem?_eq_some_iff.1 he
  obtain ⟨g', Ac, cc, hA', _, _, hcv, hc⟩ := h.at_ (fun _ _ => rfl) hk
  obtain rfl : g = g' := by rw [hA] at hA'; injection hA' with h; injection h
  exact ⟨_, own_rowV hcv, by simpa using hc 0 _ rfl, by simpa using hc 1 _ rfl, by simpa using hc 2 _ rfl, by simpa using hc 3 _ rfl⟩
end Go.Proofs.Ytlbgmcpjdfoalaa
