/- Names bound to numbers, in plain lists: the last one counts; ascending lists of them. -/
import Derived.Sort.KeysCollected
import Derived.Sort.Walk0
namespace Go.Proofs.Ytadehfoamdkcmaa
set_option linter.unusedSimpArgs false

abbrev Nm := List UInt8
section
variable {V : Type}

/-- What a name is bound to: the last one counts. -/
def lastOf : List (Nm × V) → Nm → Option V
  | [], _ => none
  | p :: l, k => match lastOf l k with
    | some v => some v
    | none => if p.1 = k then some p.2 else none
theorem lastOf_snoc (l : List (Nm × V)) (p : Nm × V) (k : Nm) : lastOf (l ++ [p]) k = if p.1 = k then some p.2 else lastOf l k := by
  induction l with
  | nil => simp [lastOf]
  | cons a l ih =>
    simp only [List.cons_append, lastOf, ih]
    by_cases h : p.1 = k
    · simp [h]
    · simp [h]
theorem lastOf_append (l l' : List (Nm × V)) (k : Nm) : lastOf (l ++ l') k = match lastOf l' k with | some v => some v | none => lastOf l k := by
  induction l with
  | nil => simp only [List.nil_append]; cases lastOf l' k <;> rfl
  | cons a l ih =>
    simp only [List.cons_append, lastOf, ih]
    cases lastOf l' k <;> rfl
theorem lastOf_map {W : Type} (f : V → W) (l : List (Nm × V)) (k : Nm) : lastOf (l.map fun p => (p.1, f p.2)) k = (lastOf l k).map f := by
  induction l with
  | nil => rfl
  | cons a l ih =>
    simp only [List.map_cons, lastOf, ih]
    cases lastOf l k with
    | some v => rfl
    | none => by_cases h : a.1 = k <;> simp [h]
theorem lastOf_mem {l : List (Nm × V)} {k : Nm} {v : V} (h : lastOf l k = some v) : (k, v) ∈ l := by
  induction l with
  | nil => cases h
  | cons a l ih =>
    simp only [lastOf] at h
    cases h' : lastOf l k with
    | some u => rw [h'] at h; injection h with h; subst h; exact List.mem_cons_of_mem _ (ih h')
    | none =>
      rw [h'] at h
      by_cases e : a.1 = k
      · simp only [e, if_true] at h
        injection h with h
        subst h e
        exact List.mem_cons_self ..
      · simp [e] at h
theorem lastOf_none {l : List (Nm × V)} {k : Nm} : lastOf l k = none ↔ k ∉ l.map Prod.fst := by
  induction l with
  | nil => simp [lastOf]
  | cons a l ih =>
    simp only [lastOf, List.map_cons, List.mem_cons, not_or]
    cases h' : lastOf l k with
    | some u =>
      have : k ∈ l.map Prod.fst := by
        by_cases hm : k ∈ l.map Prod.fst
        · exact hm
        · rw [ih.2 hm] at h'; cases h'
      simp [this]
    | none =>
      have := ih.1 h'
      by_cases e : a.1 = k
      · simp [e]
      · simp [e, this, Ne.symm e, fun h : k = a.1 => e h.symm]

/-! ### ascending lists -/
def Asc (L : List (Nm × V)) : Prop := L.Pairwise (fun p q => p.1 < q.1)
theorem lt_irr (a : Nm) : ¬ a < a := List.lt_irrefl a
theorem lt_tr {a b c : Nm} (h : a < b) (h' : b < c) : a < c := List.lt_trans h h'
theorem lt_tri (a b : Nm) : a < b ∨ a = b ∨ b < a := by
  by_cases h : a < b
  · exact .inl h
  · by_cases h' : b < a
    · exact .inr (.inr h')
    · exact .inr (.inl (List.le_antisymm (List.not_lt.1 h') (List.not_lt.1 h)))
theorem asc_eq : ∀ {l₁ l₂ : List (Nm × V)}, Asc l₁ → Asc l₂ → (∀ p, p ∈ l₁ ↔ p ∈ l₂) → l₁ = l₂
  | [], [], _, _, _ => rfl
  | [], b :: s, _, _, h => by have := (h b).2 (by simp); simp at this
  | a :: r, [], _, _, h => by have := (h a).1 (by simp); simp at this
  | a :: r, b :: s, h1, h2, h => by
    obtain ⟨a1, a2⟩ := List.pairwise_cons.1 h1
    obtain ⟨b1, b2⟩ := List.pairwise_cons.1 h2
    have hab : a = b := by
      rcases List.mem_cons.1 ((h a).1 (by simp)) with e | ha
      · exact e
      · rcases List.mem_cons.1 ((h b).2 (by simp)) with e | hb
        · exact e.symm
        · exact absurd (lt_tr (a1 b hb) (b1 a ha)) (lt_irr _)
    subst hab
    rw [asc_eq a2 b2 (fun p => ⟨fun hp => by
      rcases List.mem_cons.1 ((h p).1 (by simp [hp])) with e | hp'
      · have := a1 p hp
        rw [e] at this
        exact absurd this (lt_irr _)
      · exact hp', fun hp => by
      rcases List.mem_cons.1 ((h p).2 (by simp [hp])) with e | hp'
      · have := b1 p hp
        rw [e] at this
        exact absurd this (lt_irr _)
      · exact hp'⟩)]

/-! ### one name more: spec.boundTo -/
def bst (k : Nm) (n : V) (s : List (Nm × V) × Bool) (p : Nm × V) : List (Nm × V) × Bool :=
  let acc := if s.2 = false ∧ ¬ p.1 < k then s.1 ++ [(k, n)] else s.1
  (if p.1 = k then acc else acc ++ [p], s.2 || !decide (p.1 < k))
def bnd (k : Nm) (n : V) (L : List (Nm × V)) : List (Nm × V) :=
  let s := L.foldl (bst k n) ([], false)
  if s.2 then s.1 else s.1 ++ [(k, n)]
def below (k : Nm) (L : List (Nm × V)) : List (Nm × V) := L.filter fun p => decide (p.1 < k)
def above (k : Nm) (L : List (Nm × V)) : List (Nm × V) := L.filter fun p => decide (k < p.1)
theorem bst_snoc (k : Nm) (n : V) (L : List (Nm × V)) (p : Nm × V) : (L ++ [p]).foldl (bst k n) ([], false) = bst k n (L.foldl (bst k n) ([], false)) p := by simp [List.foldl_append]

theorem rev_ind {α : Type} {P : List α → Prop} (h0 : P []) (h1 : ∀ l x, P l → P (l ++ [x])) (l : List α) : P l := by
  rw [← List.reverse_reverse l]
  induction l.reverse with
  | nil => exact h0
  | cons a l ih => rw [List.reverse_cons]; exact h1 _ _ ih

def BstP (k : Nm) (n : V) (L : List (Nm × V)) : Prop := Asc L → ((∀ p ∈ L, p.1 < k) ∧ L.foldl (bst k n) ([], false) = (L, false)) ∨ ((∃ p ∈ L, ¬ p.1 < k) ∧ L.foldl (bst k n) ([], false) = (below k L ++ [(k, n)] ++ above k L, true))
theorem bst_all (k : Nm) (n : V) (L : List (Nm × V)) : BstP k n L := by
  refine rev_ind (P := BstP k n) ?_ ?_ L
  · intro _; exact .inl ⟨by simp, rfl⟩
  · intro L p ih hasc
    have ha : Asc L := (List.pairwise_append.1 hasc).1
    have hlt : ∀ q ∈ L, q.1 < p.1 := fun q hq => (List.pairwise_append.1 hasc).2.2 q hq p (by simp)
    rw [bst_snoc]
    rcases ih ha with ⟨hall, he⟩ | ⟨⟨q, hq, hqk⟩, he⟩
    · rw [he]
      by_cases hp : p.1 < k
      · left
        refine ⟨fun q hq => ?_, ?_⟩
        · rcases List.mem_append.1 hq with h | h
          · exact hall q h
          · simp at h; subst h; exact hp
        · have hne : ¬ p.1 = k := fun e => lt_irr k (by rw [e] at hp; exact hp)
          simp [bst, hp, hne]
      · right
        refine ⟨⟨p, by simp, hp⟩, ?_⟩
        have hb : below k (L ++ [p]) = L := by
          unfold below
          rw [List.filter_append, List.filter_eq_self.2 (by simpa using hall)]
          simp [hp]
        have hab : above k L = [] := by
          unfold above
          rw [List.filter_eq_nil_iff]
          intro q hq
          have := hall q hq
          simp only [decide_eq_true_eq]
          exact fun h => lt_irr _ (lt_tr h this)
        have ha2 : above k (L ++ [p]) = if k < p.1 then [p] else [] := by
          have : above k (L ++ [p]) = above k L ++ above k [p] := by unfold above; rw [List.filter_append]
          rw [this, hab]
          by_cases h : k < p.1 <;> simp [above, h]
        rw [hb, ha2]
        by_cases hne : p.1 = k
        · have : ¬ k < p.1 := fun h => lt_irr k (by rw [hne] at h; exact h)
          simp [bst, hp, hne, lt_irr]
        · have : k < p.1 := by
            rcases lt_tri p.1 k with h | h | h
            · exact absurd h hp
            · exact absurd h hne
            · exact h
          simp [bst, hp, hne, this]
    · rw [he]
      right
      have hkp : ¬ p.1 < k := fun h => hqk (lt_tr (hlt q hq) h)
      refine ⟨⟨q, by simp [hq], hqk⟩, ?_⟩
      have hb : below k (L ++ [p]) = below k L := by
        unfold below
        rw [List.filter_append]
        simp [hkp]
      have ha2 : above k (L ++ [p]) = above k L ++ (if k < p.1 then [p] else []) := by
        unfold above
        rw [List.filter_append]
        by_cases h : k < p.1 <;> simp [h]
      rw [hb, ha2]
      by_cases hne : p.1 = k
      · simp [bst, hkp, hne, lt_irr]
      · have : k < p.1 := by
          rcases lt_tri p.1 k with h | h | h
          · exact absurd h hkp
          · exact absurd h hne
          · exact h
        simp [bst, hkp, hne, this]
theorem bnd_eq (k : Nm) (n : V) {L : List (Nm × V)} (h : Asc L) : bnd k n L = below k L ++ [(k, n)] ++ above k L := by
  unfold bnd
  rcases bst_all k n L h with ⟨hall, he⟩ | ⟨_, he⟩
  · rw [he]
    have hb : below k L = L := by unfold below; rw [List.filter_eq_self.2 (by simpa using hall)]
    have hab : above k L = [] := by
      unfold above
      rw [List.filter_eq_nil_iff]
      intro q hq
      have := hall q hq
      simp only [decide_eq_true_eq]
      exact fun h => lt_irr _ (lt_tr h this)
    simp [hb, hab]
  · rw [he]; simp
theorem bnd_asc (k : Nm) (n : V) {L : List (Nm × V)} (h : Asc L) : Asc (bnd k n L) := by
  rw [bnd_eq k n h]
  unfold Asc
  have m1 : ∀ p ∈ below k L, p.1 < k := fun p hp => by simpa using (List.mem_filter.1 hp).2
  have m2 : ∀ p ∈ above k L, k < p.1 := fun p hp => by simpa using (List.mem_filter.1 hp).2
  refine List.pairwise_append.2 ⟨List.pairwise_append.2 ⟨List.Pairwise.filter _ h, by simp, fun p hp q hq => ?_⟩, List.Pairwise.filter _ h, fun p hp q hq => ?_⟩
  · simp at hq; subst hq; exact m1 p hp
  · rcases List.mem_append.1 hp with hp | hp
    · exact lt_tr (m1 p hp) (m2 q hq)
    · simp at hp; subst hp; exact m2 q hq
theorem bnd_mem (k : Nm) (n : V) {L : List (Nm × V)} (h : Asc L) (k' : Nm) (v : V) : (k', v) ∈ bnd k n L ↔ (k' = k ∧ v = n) ∨ (k' ≠ k ∧ (k', v) ∈ L) := by
  rw [bnd_eq k n h]
  simp only [below, above, List.mem_append, List.mem_filter, List.mem_singleton, decide_eq_true_eq, Prod.mk.injEq]
  constructor
  · rintro ((⟨h1, h2⟩ | h1) | ⟨h1, h2⟩)
    · exact .inr ⟨fun e => lt_irr k (by rw [e] at h2; exact h2), h1⟩
    · exact .inl h1
    · exact .inr ⟨fun e => lt_irr k (by rw [e] at h2; exact h2), h1⟩
  · rintro (h1 | ⟨h1, h2⟩)
    · exact .inl (.inr h1)
    · rcases lt_tri k' k with e | e | e
      · exact .inl (.inl ⟨h2, e⟩)
      · exact absurd e h1
      · exact .inr ⟨h2, e⟩
theorem bnd_len (k : Nm) (n : V) {L : List (Nm × V)} (h : Asc L) : (bnd k n L).length ≤ L.length + 1 := by
  rw [bnd_eq k n h]
  simp only [List.length_append, List.length_cons, List.length_nil]
  have e : (below k L).length + (above k L).length ≤ L.length := by
    clear h
    induction L with
    | nil => simp [below, above]
    | cons a L ih =>
      by_cases h1 : a.1 < k
      · have h2 : ¬ k < a.1 := fun h => lt_irr _ (lt_tr h h1)
        simp only [below, above, List.filter_cons, h1, h2, decide_true, decide_false, if_true, if_false, Bool.false_eq_true, List.length_cons] at ih ⊢
        omega
      · by_cases h2 : k < a.1
        · simp only [below, above, List.filter_cons, h1, h2, decide_true, decide_false, if_true, if_false, Bool.false_eq_true, List.length_cons] at ih ⊢
          omega
        · simp only [below, above, List.filter_cons, h1, h2, decide_true, decide_false, if_true, if_false, Bool.false_eq_true, List.length_cons] at ih ⊢
          omega
  omega

/-- spec.United. -/
def united (l : List (Nm × V)) : List (Nm × V) := l.foldl (fun L p => bnd p.1 p.2 L) []
theorem united_snoc (l : List (Nm × V)) (p : Nm × V) : united (l ++ [p]) = bnd p.1 p.2 (united l) := by simp [united, List.foldl_append]
theorem united_all (l : List (Nm × V)) : Asc (united l) ∧ (united l).length ≤ l.length ∧ ∀ k v, (k, v) ∈ united l ↔ lastOf l k = some v := by
  refine rev_ind (P := fun l => Asc (united l) ∧ (united l).length ≤ l.length ∧ ∀ k v, (k, v) ∈ united l ↔ lastOf l k = some v) ?_ ?_ l
  · exact ⟨List.Pairwise.nil, Nat.le_refl _, fun k v => by simp [united, lastOf]⟩
  · rintro l p ⟨h1, h2, h3⟩
    rw [united_snoc]
    refine ⟨bnd_asc _ _ h1, ?_, fun k v => ?_⟩
    · have := bnd_len p.1 p.2 h1
      simp only [List.length_append, List.length_cons, List.length_nil]
      omega
    · rw [bnd_mem _ _ h1, lastOf_snoc, h3]
      by_cases e : p.1 = k
      · simp only [e, if_true, Option.some.injEq]
        constructor
        · rintro (⟨_, h⟩ | ⟨h, _⟩)
          · exact h.symm
          · exact absurd rfl h
        · intro h; exact .inl ⟨trivial, h.symm⟩
      · have e' : ¬ k = p.1 := fun h => e h.symm
        simp [e, e']
end

/-! ### names, sorted -/
theorem leB_lt {ss : List Nm} (hn : ss.Nodup) : (ss.mergeSort leB).Pairwise (· < ·) := by
  have tr : ∀ a b c : List UInt8, leB a b = true → leB b c = true → leB a c = true := fun a b c h1 h2 => by simp only [leB, decide_eq_true_eq] at *; exact List.le_trans h1 h2
  have to : ∀ a b : List UInt8, (leB a b || leB b a) = true := fun a b => by simp only [leB, Bool.or_eq_true, decide_eq_true_eq]; exact List.le_total a b
  have h1 := List.pairwise_mergeSort tr to ss
  have h2 : (ss.mergeSort leB).Nodup := (List.mergeSort_perm ss leB).nodup_iff.2 hn
  refine (List.pairwise_and_iff.2 ⟨h1, h2⟩).imp ?_
  rintro a b ⟨h, hne⟩
  rcases lt_tri a b with e | e | e
  · exact e
  · exact absurd e hne
  · simp only [leB, decide_eq_true_eq] at h
    exact absurd (List.le_antisymm h (List.not_lt.1 fun h' => lt_irr _ (lt_tr e h'))) hne

/-- Sorted names, each with what it is bound to: the same as united. -/
theorem sorted_united {V : Type} (l : List (Nm × V)) (ss : List Nm) (hn : ss.Nodup) (hm : ∀ k, k ∈ ss ↔ (lastOf l k).isSome = true) (R : List (Nm × V)) (hR : R.map Prod.fst = ss.mergeSort leB) (hv : ∀ p ∈ R, lastOf l p.1 = some p.2) : R = united l := by
  obtain ⟨h1, _, h3⟩ := united_all l
  have hA : Asc R := by
    have := leB_lt hn
    rw [← hR, List.pairwise_map] at this
    exact this
  refine asc_eq hA h1 fun ⟨k, v⟩ => ?_
  rw [h3]
  constructor
  · intro h; exact hv _ h
  · intro h
    have hk : k ∈ ss := (hm k).2 (by rw [h]; rfl)
    have hk2 : k ∈ R.map Prod.fst := by rw [hR]; exact (List.mergeSort_perm ss leB).mem_iff.2 hk
    obtain ⟨⟨k', v'⟩, hp, rfl⟩ := List.mem_map.1 hk2
    have := hv _ hp
    rw [h] at this
    injection this with this
    subst this
    exact hp
end Go.Proofs.Ytadehfoamdkcmaa
