/- The law FnUnion: its walk. -/
import Derived.Test.YtadehfoamdkcmaaUnG
namespace Go.Proofs.Ytadehfoamdkcmaa
open Go.RowKit Val
set_option linter.unusedSimpArgs false

theorem prs_zip (ns ms : List ByteArray) (xs ys : List Int) (h : ns.length = xs.length) : prs ns xs ++ prs ms ys = ((ns ++ ms).map nm).zip (xs ++ ys) := by
  unfold prs
  rw [List.map_append, List.zip_append (by rw [List.length_map]; exact h)]

set_option maxRecDepth 100000 in
set_option maxHeartbeats 4000000 in
theorem law_yes (xs ys : List Int) (ns ms : List ByteArray) (nv xv mv yv : Value) (w : World) (hn : RowV w w.heap.size nv (strs ns)) (hx : RowV w w.heap.size xv (ints xs)) (hm : RowV w w.heap.size mv (strs ms)) (hy : RowV w w.heap.size yv (ints ys))
    (l1 : ns.length = xs.length) (l2 : ms.length = ys.length) (la : ns.length ≤ 60) (lb : ms.length ≤ 60) (za : ∀ s ∈ ns, s.size ≤ maxLen) (zb : ∀ s ∈ ms, s.size ≤ maxLen) : Calls Try.prog 3 #[nv, xv, mv, yv] w (TrueP w) := by
  have HF1 := Lib.hid (fits5_any nv ns w w.heap.size hn (by omega))
  have HF2 := Lib.hid (fits5_any mv ms w w.heap.size hm (by omega))
  have HU := Lib.hid (union_yes xs ys ns ms nv xv mv yv w _ rfl hn hx hm hy l1 l2 la lb za zb)
  have HD := Lib.hid (fun W (hW : Below w.heap.size w W) => united_any xs ys ns ms nv xv mv yv W ((hn.below hW (Nat.le_refl _)).more hW.size) ((hx.below hW (Nat.le_refl _)).more hW.size) ((hm.below hW (Nat.le_refl _)).more hW.size) ((hy.below hW (Nat.le_refl _)).more hW.size) l1 l2 la lb)
  obtain ⟨A1, c1, rfl⟩ := hn.form
  obtain ⟨A2, c2, rfl⟩ := hx.formI
  obtain ⟨A3, c3, rfl⟩ := hm.form
  obtain ⟨A4, c4, rfl⟩ := hy.formI
  have hlen : (united (prs ns xs ++ prs ms ys)).length ≤ 400 := by
    have h := (united_all (prs ns xs ++ prs ms ys)).2.1
    rw [List.length_append, prs_len _ _ l1, prs_len _ _ l2] at h
    omega
  have HZ := Lib.hid (prs_zip ns ms xs ys l1)
  generalize hq : united (prs ns xs ++ prs ms ys) = R at hlen
  have HQ := Lib.hid hq
  rw [← l1, ← l2] at HU HD ⊢
  clear hn hx hm hy l1 l2 za zb hq
  have la' : (ns.length : Int) ≤ 60 := by omega
  have lb' : (ms.length : Int) ≤ 60 := by omega
  go_enter Try.func3, Try.ntmps3
  go_wp2_with fail
  refine HF1.out.mono ?_
  rintro e w0 ⟨b, rfl, rfl⟩
  cases b with
  | false =>
    go_wp2_with fail
    go_ret
    exact ⟨rfl, Below.refl _ _⟩
  | true =>
    go_wp2_with fail
    refine HF2.out.mono ?_
    rintro e w0 ⟨b, rfl, rfl⟩
    cases b with
    | false =>
      go_wp2_with fail
      go_ret
      exact ⟨rfl, Below.refl _ _⟩
    | true =>
      go_wp2_with fail
      refine HU.out.mono ?_
      rintro e w1 ⟨v1, v2, rfl, r1, r2, hb1⟩
      have HD1 := Lib.hid (HD.out w1 hb1)
      have HR1 := Lib.hid r1
      have HR2 := Lib.hid r2
      have HB1 := Lib.hid hb1
      clear r1 r2 hb1
      go_wp2_with fail
      refine HD1.out.mono ?_
      rintro e w2 ⟨v3, v4, rfl, r3, r4, hb2⟩
      have e1 : nms (united (((ns ++ ms).map nm).zip (xs ++ ys))) = nms R := by rw [← HZ.out, HQ.out]
      have e2 : ints ((united (((ns ++ ms).map nm).zip (xs ++ ys))).map Prod.snd) = vls R := by rw [← HZ.out, HQ.out]; rfl
      have r1 := HR1.out
      have r2 := HR2.out
      rw [show ((united (((ns ++ ms).map nm).zip (xs ++ ys))).map fun p => encStr p.1) = nms R from e1] at r1
      rw [e2] at r2
      rw [HQ.out] at r3 r4
      have HS1 := Lib.hid (sameN_any v1 v3 R w2 ((r1.below hb2 (Nat.le_refl _)).more hb2.size) r3 hlen)
      have HS2 := Lib.hid (fun W (hW : Below w2.heap.size w2 W) => sameV_any v2 v4 R W ((((r2.below hb2 (Nat.le_refl _)).more hb2.size).below hW (Nat.le_refl _)).more hW.size) ((r4.below hW (Nat.le_refl _)).more hW.size) hlen)
      have HB2 := Lib.hid (bnext HB1.out hb2)
      clear r1 r2 r3 r4 e1 e2 hb2
      go_wp2_with fail
      refine HS1.out.mono ?_
      rintro e w3 ⟨rfl, hb3⟩
      have HS3 := Lib.hid (HS2.out w3 hb3)
      have HB3 := Lib.hid (bnext HB2.out hb3)
      clear hb3
      go_wp2_with fail
      refine HS3.out.mono ?_
      rintro e w4 ⟨rfl, hb4⟩
      have HB4 := Lib.hid (bnext HB3.out hb4)
      clear hb4
      go_wp2_with fail
      go_ret
      exact ⟨rfl, HB4.out⟩

set_option maxRecDepth 100000 in
set_option maxHeartbeats 4000000 in
theorem law_no (xs ys : List Int) (ns ms : List ByteArray) (nv xv mv yv : Value) (w : World) (hn : RowV w w.heap.size nv (strs ns)) (hx : RowV w w.heap.size xv (ints xs)) (hm : RowV w w.heap.size mv (strs ms)) (hy : RowV w w.heap.size yv (ints ys))
    (la : ns.length ≤ 60) (lb : ms.length ≤ 60) (lx : xs.length ≤ 2147483647) (ly : ys.length ≤ 2147483647) (h : ns.length ≠ xs.length ∨ ms.length ≠ ys.length) : Calls Try.prog 3 #[nv, xv, mv, yv] w (TrueP w) := by
  have HF1 := Lib.hid (fits5_any nv ns w w.heap.size hn (by omega))
  have HF2 := Lib.hid (fits5_any mv ms w w.heap.size hm (by omega))
  have HU := Lib.hid (union_no xs ys ns ms nv xv mv yv w hn hx hm hy h)
  obtain ⟨A1, c1, rfl⟩ := hn.form
  obtain ⟨A2, c2, rfl⟩ := hx.formI
  obtain ⟨A3, c3, rfl⟩ := hm.form
  obtain ⟨A4, c4, rfl⟩ := hy.formI
  clear hn hx hm hy
  have h1 : (ns.length == xs.length) = true → (ms.length == ys.length) = false := fun e => by
    have e' : ns.length = xs.length := by simpa using e
    have := h.resolve_left (by simpa using e')
    simpa using this
  have h0 := Lib.hid h1
  clear h h1
  generalize ns.length = a at *
  generalize xs.length = b at *
  generalize ms.length = c at *
  generalize ys.length = d at *
  have la' : (a : Int) ≤ 60 := by omega
  have lb' : (c : Int) ≤ 60 := by omega
  have lx' : (b : Int) ≤ 2147483647 := by omega
  have ly' : (d : Int) ≤ 2147483647 := by omega
  have dx : decide ((2147483647 : Int) < (b : Int)) = false := by simpa using lx'
  have dy : decide ((2147483647 : Int) < (d : Int)) = false := by simpa using ly'
  have da : decide ((60 : Int) < (a : Int)) = false := by simpa using la'
  have dc : decide ((60 : Int) < (c : Int)) = false := by simpa using lb'
  cases hab : (a == b)
  all_goals
    try have hcd := h0.out hab
    try have hcd' : (c != d) = true := by simp only [bne, hcd]; rfl
    try have hab' : (a != b) = true := by simp only [bne, hab]; rfl
    try have hab2 : (a != b) = false := by simp only [bne, hab]; rfl
    clear h0
    go_enter Try.func3, Try.ntmps3
    go_wp2_with fail
    refine HF1.out.mono ?_
    rintro e w0 ⟨b0, rfl, rfl⟩
    cases b0
    · go_wp2_with fail
      go_ret
      exact ⟨rfl, Below.refl _ _⟩
    · go_wp2_with fail
      refine HF2.out.mono ?_
      rintro e w0 ⟨b0, rfl, rfl⟩
      cases b0
      · go_wp2_with fail
        go_ret
        exact ⟨rfl, Below.refl _ _⟩
      · go_wp2_with fail
        refine HU.out.mono ?_
        rintro e w1 ⟨rfl, rfl⟩
        go_wp2_with fail
        all_goals
          go_ret
          exact ⟨rfl, Below.refl _ _⟩

set_option maxRecDepth 100000 in
set_option maxHeartbeats 4000000 in
theorem law_big (xs ys : List Int) (ns ms : List ByteArray) (nv xv mv yv : Value) (w : World) (hn : RowV w w.heap.size nv (strs ns)) (hx : RowV w w.heap.size xv (ints xs)) (hm : RowV w w.heap.size mv (strs ms)) (hy : RowV w w.heap.size yv (ints ys))
    (mn : ns.length ≤ maxLen) (_mx : xs.length ≤ maxLen) (mm : ms.length ≤ maxLen) (_my : ys.length ≤ maxLen) (h : 2147483647 < xs.length ∨ 2147483647 < ys.length ∨ 60 < ns.length ∨ 60 < ms.length) : Calls Try.prog 3 #[nv, xv, mv, yv] w (TrueP w) := by
  unfold maxLen at mn mm
  have HF1 := Lib.hid (fits5_any nv ns w w.heap.size hn (by omega))
  have HF2 := Lib.hid (fits5_any mv ms w w.heap.size hm (by omega))
  obtain ⟨A1, c1, rfl⟩ := hn.form
  obtain ⟨A2, c2, rfl⟩ := hx.formI
  obtain ⟨A3, c3, rfl⟩ := hm.form
  obtain ⟨A4, c4, rfl⟩ := hy.formI
  clear hn hx hm hy mn mm
  have HH := Lib.hid (show (2147483647 : Int) < xs.length ∨ ((xs.length : Int) ≤ 2147483647 ∧ (2147483647 : Int) < ys.length) ∨ ((xs.length : Int) ≤ 2147483647 ∧ (ys.length : Int) ≤ 2147483647 ∧ (60 : Int) < ns.length) ∨ ((xs.length : Int) ≤ 2147483647 ∧ (ys.length : Int) ≤ 2147483647 ∧ (ns.length : Int) ≤ 60 ∧ (60 : Int) < ms.length) by omega)
  clear h
  rcases HH.out with h | ⟨h1, h⟩ | ⟨h1, h2, h⟩ | ⟨h1, h2, h3, h⟩
  all_goals
    clear HH
    have d0 := decide_eq_true h
    try have d1 := decide_eq_false (Int.not_lt.2 h1)
    try have d2 := decide_eq_false (Int.not_lt.2 h2)
    try have d3 := decide_eq_false (Int.not_lt.2 h3)
    go_enter Try.func3, Try.ntmps3
    go_wp2_with fail
    refine HF1.out.mono ?_
    rintro e w0 ⟨b0, rfl, rfl⟩
    cases b0
    · go_wp2_with fail
      go_ret
      exact ⟨rfl, Below.refl _ _⟩
    · go_wp2_with fail
      first
        | (go_ret; exact ⟨rfl, Below.refl _ _⟩)
        | (refine HF2.out.mono ?_
           rintro e w0 ⟨b0, rfl, rfl⟩
           cases b0
           all_goals
             go_wp2_with fail
             go_ret
             exact ⟨rfl, Below.refl _ _⟩)

theorem law_any (xs ys : List Int) (ns ms : List ByteArray) (nv xv mv yv : Value) (w : World) (hn : RowV w w.heap.size nv (strs ns)) (hx : RowV w w.heap.size xv (ints xs)) (hm : RowV w w.heap.size mv (strs ms)) (hy : RowV w w.heap.size yv (ints ys))
    (mn : ns.length ≤ maxLen) (mx : xs.length ≤ maxLen) (mm : ms.length ≤ maxLen) (my : ys.length ≤ maxLen) (za : ∀ s ∈ ns, s.size ≤ maxLen) (zb : ∀ s ∈ ms, s.size ≤ maxLen) : Calls Try.prog 3 #[nv, xv, mv, yv] w fun e w' => e = .returned (.bool true) ∧ Below w.heap.size w w' := by
  by_cases h : 2147483647 < xs.length ∨ 2147483647 < ys.length ∨ 60 < ns.length ∨ 60 < ms.length
  · exact law_big xs ys ns ms nv xv mv yv w hn hx hm hy mn mx mm my h
  · by_cases h2 : ns.length = xs.length ∧ ms.length = ys.length
    · exact law_yes xs ys ns ms nv xv mv yv w hn hx hm hy h2.1 h2.2 (by omega) (by omega) za zb
    · exact law_no xs ys ns ms nv xv mv yv w hn hx hm hy (by omega) (by omega) (by omega) (by omega) (by omega)
end Go.Proofs.Ytadehfoamdkcmaa
