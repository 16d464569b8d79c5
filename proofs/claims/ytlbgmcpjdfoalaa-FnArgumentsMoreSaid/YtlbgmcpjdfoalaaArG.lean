/- The contracts of PartArguments, impl.Arguments, calls, allNamed; the plain laws. -/
import Derived.Test.YtlbgmcpjdfoalaaArF
namespace Go.Proofs.Ytlbgmcpjdfoalaa
open Go.RowKit

theorem RowV.now {w w' : World} {v : Value} {xs : List Value} (h : RowV w w.heap.size v xs) (hb : Below w.heap.size w w') : RowV w' w'.heap.size v xs := (h.below hb (Nat.le_refl _)).more hb.size
theorem Row2.now {w w' : World} {v : Value} {L : List (Value × Value)} (h : Row2 w w.heap.size v L) (hb : Below w.heap.size w w') : Row2 w' w'.heap.size v L := (h.below hb (Nat.le_refl _)).more hb.size

set_option maxRecDepth 100000 in
set_option maxHeartbeats 1000000 in
theorem part_any (n : Nat) (cv ov nv : Value) (ps ns : List ByteArray) (os : List Bool) (w : World) (hp : RowV w w.heap.size cv (strs ps)) (ho : RowV w w.heap.size ov (bools os)) (hs : RowV w w.heap.size nv (strs ns))
    (hl : os.length = ps.length) (hlp : ps.length ≤ 200) (hln : ns.length ≤ 200) (hn : n ≤ 200) (hzp : ∀ s ∈ ps, s.size ≤ maxLen) (hzn : ∀ s ∈ ns, s.size ≤ maxLen) :
    Calls Try.prog 26 #[cv, ov, .int .i64 n, nv] w (CheckP ps os n ns w) := by
  have HP := Lib.hid hp
  have HO := Lib.hid ho
  have HS := Lib.hid hs
  have HZP := Lib.hid hzp
  have HZN := Lib.hid hzn
  have HL := Lib.hid hl
  clear hp ho hs hzp hzn hl
  go_enter Try.func26, Try.ntmps26
  go_wp2_with fail
  have hb0 : ∀ o, Below w.heap.size w (w.alloc o) := fun o => (Below.refl _ _).alloc (Nat.le_refl _) _
  refine (arguments_any n _ ns _ (HS.out.now (hb0 _)) hn hln).mono ?_
  rintro e w1 ⟨A, c, v, L, rfl, hN, hNr, hb1⟩
  have hba := bnext (hb0 _) hb1
  have g7 := (hb1.cell (p := ⟨w.heap.size, 7, none⟩) (by simp)).trans (show _ = some (Value.slice none 0 0) by simp [go_sem])
  have g5 := (hb1.cell (p := ⟨w.heap.size, 5, none⟩) (by simp)).trans (show _ = some (Value.pointer none) by simp [go_sem])
  have hls := hb1.size
  rw [World.size_alloc] at hls
  have HN := Lib.hid hN
  have HNr := Lib.hid hNr
  have HBA := Lib.hid hba
  have G7 := Lib.hid g7
  have G5 := Lib.hid g5
  clear hb1 hN hNr hba g7 g5 hb0
  go_wp2_with fail
  refine (params_any _ _ ps os _ (HP.out.now HBA.out) (HO.out.now HBA.out) HL.out hlp).mono ?_
  rintro e w2 ⟨pv, LP, rfl, hP, hPr, hb2⟩
  have h7 := (hb2.cell (p := ⟨w.heap.size, 7, none⟩) (by simp; omega)).trans G7.out
  have h5 := (hb2.cell (p := ⟨w.heap.size, 5, none⟩) (by simp; omega)).trans G5.out
  have HBB := Lib.hid (bnext HBA.out hb2)
  have HN2 := Lib.hid (HNr.out.now hb2)
  have HP2 := Lib.hid hP
  have HPr := Lib.hid hPr
  have H7 := Lib.hid h7
  have H5 := Lib.hid h5
  clear hb2 hP hPr h7 h5
  go_wp2_with fail
  refine (check_any w.heap.size n A c v pv L LP ps ns os w2 H7.out H5.out HN.out HN2.out HP2.out HPr.out hlp hln hn HZP.out HZN.out).mono ?_
  rintro e w3 ⟨r, rfl, hb3, hr⟩
  have HB3 := Lib.hid (bnext HBB.out hb3)
  have HR := Lib.hid hr
  clear hb3 hr
  go_wp2_with fail
  go_ret
  exact ⟨r, rfl, HB3.out, HR.out⟩

def DecP (p : Prop) (w : World) (e : Ending) (w' : World) : Prop := ∃ b, e = .returned (.bool b) ∧ (b = true ↔ p) ∧ Below w.heap.size w w'
theorem impl_any (n : Nat) (cv ov nv : Value) (ps ns : List ByteArray) (os : List Bool) (w : World) (hp : RowV w w.heap.size cv (strs ps)) (ho : RowV w w.heap.size ov (bools os)) (hs : RowV w w.heap.size nv (strs ns))
    (hl : os.length = ps.length) (hlp : ps.length ≤ 200) (hln : ns.length ≤ 200) (hn : n ≤ 200) (hzp : ∀ s ∈ ps, s.size ≤ maxLen) (hzn : ∀ s ∈ ns, s.size ≤ maxLen) :
    Calls Try.prog 14 #[cv, ov, .int .i64 n, nv] w (DecP (ArgsOk ps os n ns) w) := by
  have HC := Lib.hid (part_any n cv ov nv ps ns os w hp ho hs hl hlp hln hn hzp hzn)
  have hn0 : (0 : Int) ≤ (n : Int) := by omega
  have hn1 : (n : Int) ≤ 1000 := by omega
  clear hp ho hs hl hzp hzn
  go_enter Try.func14, Try.ntmps14
  go_wp2_with fail
  refine HC.out.mono ?_
  rintro e w1 ⟨r, rfl, hb, ⟨rfl, hok⟩ | ⟨⟨u, rfl⟩, hno⟩⟩
  · have HOK := Lib.hid hok
    clear hok
    go_wp2_with fail
    go_ret
    exact ⟨_, rfl, ⟨fun _ => HOK.out, fun _ => rfl⟩, hb⟩
  · have HNO := Lib.hid hno
    clear hno
    go_wp2_with fail
    go_ret
    exact ⟨_, rfl, ⟨fun h => by simp at h, fun h => absurd h HNO.out⟩, hb⟩

def CallP (ps ns : List ByteArray) (w : World) (e : Ending) (w' : World) : Prop := ∃ b, e = .returned (.bool b) ∧ (b = true → Apart ps ∧ Apart ns) ∧ Below w.heap.size w w'
theorem calls_any (cv nv : Value) (ps ns : List ByteArray) (w : World) (hp : RowV w w.heap.size cv (strs ps)) (hs : RowV w w.heap.size nv (strs ns)) (hlp : ps.length ≤ maxLen) (hln : ns.length ≤ maxLen) (hzp : ∀ s ∈ ps, s.size ≤ maxLen) (hzn : ∀ s ∈ ns, s.size ≤ maxLen) :
    Calls Try.prog 12 #[cv, .int .i64 0, nv] w (CallP ps ns w) := by
  have HP := Lib.hid hp
  have HS := Lib.hid hs
  have HZP := Lib.hid hzp
  have HZN := Lib.hid hzn
  clear hp hs hzp hzn
  unfold maxLen at hlp hln HZP HZN
  go_enter Try.func12, Try.ntmps12
  go_wp2_with fail
  refine (apart_any _ ps _ HP.out hlp HZP.out).mono ?_
  rintro e w1 ⟨b, rfl, h1, hb1⟩
  cases b
  · go_wp2_with fail
    go_ret
    exact ⟨false, rfl, (fun h => by cases h), hb1⟩
  · have H1 := Lib.hid (h1 rfl)
    clear h1
    go_wp2_with fail
    refine (apart_any _ ns _ (HS.out.now hb1) hln HZN.out).mono ?_
    rintro e w2 ⟨b, rfl, h2, hb2⟩
    have HB := Lib.hid (bnext hb1 hb2)
    clear hb1 hb2
    cases b
    · go_wp2_with fail
      go_ret
      exact ⟨false, rfl, (fun h => by cases h), HB.out⟩
    · have H2 := Lib.hid (h2 rfl)
      clear h2
      go_wp2_with fail
      go_ret
      exact ⟨_, rfl, fun _ => ⟨H1.out, H2.out⟩, HB.out⟩

/-! ### plain laws -/
theorem named_ok {ps : List ByteArray} {os : List Bool} (h : Apart ps) : ArgsOk ps os 0 ps := by
  refine ⟨Nat.zero_le _, fun j hj => ⟨hj, ?_, List.getElem_mem hj⟩, fun i hi => ⟨hi, .inl (by simp)⟩⟩
  simp only [List.take_zero, List.nil_append]
  intro hm
  obtain ⟨m, hm', he⟩ := List.getElem_of_mem hm
  have hm2 : m < j := by simp at hm'; omega
  rw [List.getElem_take] at he
  exact h.2 m j hm2 hj he
theorem more_ok {ps ns : List ByteArray} {os : List Bool} {n : Nat} (h : ArgsOk ps os n ns) (i : Nat) : ArgsOk ps (os.set i true) n ns := by
  refine ⟨h.1, h.2.1, fun k hk => ?_⟩
  obtain ⟨hk', hg⟩ := h.2.2 k hk
  refine ⟨hk', hg.imp_right fun he => ?_⟩
  rw [List.getElem?_set]
  by_cases hik : i = k
  · subst hik
    have := (List.getElem?_eq_some_iff.1 he).1
    simp [this]
  · simp [hik, he]
theorem longer_ok {ps ns : List ByteArray} {os : List Bool} {n : Nat} {q : ByteArray} (h : ArgsOk ps os n ns) (hl : os.length = ps.length) : ArgsOk (ps ++ [q]) (os ++ [true]) n ns := by
  have ht : (ps ++ [q]).take n = ps.take n := by rw [List.take_append_of_le_length h.1]
  refine ⟨by have := h.1; simp; omega, fun j hj => ?_, fun i hi => ?_⟩
  · obtain ⟨hj', h1, h2⟩ := h.2.1 j hj
    exact ⟨hj', by rw [ht]; exact h1, List.mem_append_left _ h2⟩
  · refine ⟨hi, ?_⟩
    rcases Nat.lt_or_ge i ps.length with hlt | hge
    · obtain ⟨_, hg⟩ := h.2.2 i hlt
      rw [ht, List.getElem_append_left hlt, List.getElem?_append_left (by omega)]
      exact hg
    · have : i = os.length := by simp at hi; omega
      subst this
      exact .inr (by simp)

theorem allNamed_any (cv ov : Value) (ps : List ByteArray) (os : List Bool) (w : World) (hp : RowV w w.heap.size cv (strs ps)) (ho : RowV w w.heap.size ov (bools os))
    (hl : os.length = ps.length) (hlp : ps.length ≤ 200) (hzp : ∀ s ∈ ps, s.size ≤ maxLen) (ha : Apart ps) :
    Calls Try.prog 15 #[cv, ov] w fun e w' => e = .returned (.bool true) ∧ Below w.heap.size w w' := by
  have HC := Lib.hid (impl_any 0 cv ov cv ps ps os w hp ho hp hl hlp hlp (by omega) hzp hzp)
  have HA := Lib.hid ha
  clear hp ho hl hzp ha
  go_enter Try.func15, Try.ntmps15
  go_wp2_with fail
  refine HC.out.mono ?_
  rintro e w1 ⟨b, rfl, hb, hbel⟩
  obtain rfl : b = true := hb.2 (named_ok HA.out)
  go_wp2_with fail
  go_ret
  exact ⟨rfl, hbel⟩
end Go.Proofs.Ytlbgmcpjdfoalaa
