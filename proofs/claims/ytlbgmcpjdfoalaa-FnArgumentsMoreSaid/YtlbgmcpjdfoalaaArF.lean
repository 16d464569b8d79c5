/- The contract of checkArguments. -/
import Derived.Test.YtlbgmcpjdfoalaaArE
namespace Go.Proofs.Ytlbgmcpjdfoalaa
open Go.RowKit

theorem take_snoc {α : Type} (l : List α) (k : Nat) (h : k < l.length) : l.take (k + 1) = l.take k ++ [l[k]] := by
  rw [List.take_add_one, List.getElem?_eq_getElem h]; rfl
theorem lt_of_cell {w : World} {g o : Nat} {v : Value} (h : w.cell? ⟨g, o, none⟩ = some v) : g < w.heap.size := by
  unfold World.cell? at h
  cases hg : w.heap[g]? with
  | none => simp [hg] at h
  | some x => exact (Array.getElem?_eq_some_iff.1 hg).1

noncomputable abbrev elB : Value → Option (DataW Unit × List MemPlace) := plainElem Try.prog 4
def MapAt (w : World) (b k : Nat) (ss : List ByteArray) : Prop := w.ownsMap Try.prog 103 elB b k (Maps.setOf tt (keys ss))
theorem keyed : Maps.Keyed Try.prog 103 := Maps.string_keyed Try.underlying103
theorem key_ok (s : ByteArray) (h : s.size ≤ maxLen) : keyOf Try.prog 103 (.string s) = some (kl s) := WideMaps.keyOf_string_mk Try.underlying103 h
theorem val_ok : elB (.bool true) = some (tt, []) := plainElem_bool Try.underlying4 true
theorem val_no : elB (.bool false) = some (.lit (.bool false), []) := plainElem_bool Try.underlying4 false
theorem zero_bool (w : World) : (zeroValue 4).run Try.prog w = .ok (.bool false) w := by kernel_rfl

theorem MapAt.put {w' : World} {b k : Nat} {ss : List ByteArray} {q : ByteArray} (h : w'.ownsMap Try.prog 103 elB b k ((Maps.setOf tt (keys ss)).put (kl q) tt)) : MapAt w' b k (ss ++ [q]) := by
  unfold MapAt
  rw [← put_keys]
  exact h

set_option maxRecDepth 100000 in
set_option maxHeartbeats 4000000 in
theorem check_any (g n : Nat) (A1 : Option Addr) (c1 : Nat) (nv pv : Value) (LN LP : List (Value × Value)) (ps ns : List ByteArray) (os : List Bool) (w : World)
    (ci : w.cell? ⟨g, 7, none⟩ = some (.slice none 0 0)) (cl : w.cell? ⟨g, 5, none⟩ = some (.pointer none))
    (hN : NamL ns LN) (hNr : Row2 w w.heap.size nv LN) (hP : ParL ps os LP) (hPr : Row2 w w.heap.size pv LP)
    (hlp : ps.length ≤ 200) (hln : ns.length ≤ 200) (hn : n ≤ 200) (hzp : ∀ s ∈ ps, s.size ≤ maxLen) (hzn : ∀ s ∈ ns, s.size ≤ maxLen) :
    Calls Try.prog 32 #[.pointer (some ⟨g, 0, none⟩), .agg #[.slice A1 n c1, nv, .bool false], pv] w (CheckP ps os n ns w) := by
  obtain ⟨A2, c2, rfl⟩ := hNr.form
  obtain ⟨A3, c3, rfl⟩ := hPr.form
  rw [hN.1] at hNr ⊢
  rw [hP.1] at hPr ⊢
  have hgl := lt_of_cell ci
  have HC := Lib.hid (show ∀ W, Below w.heap.size w W → W.cell? ⟨g, 7, none⟩ = some (.slice none 0 0) ∧ W.cell? ⟨g, 5, none⟩ = some (.pointer none) from fun W h => ⟨(h.cell (p := ⟨g, 7, none⟩) hgl).trans ci, (h.cell (p := ⟨g, 5, none⟩) hgl).trans cl⟩)
  have HN := Lib.hid hN
  have HNr := Lib.hid hNr
  have HP := Lib.hid hP
  have HPr := Lib.hid hPr
  have HZP := Lib.hid hzp
  have HZN := Lib.hid hzn
  clear ci cl hN hNr hP hPr hzp hzn hgl
  have hb0 : Below w.heap.size w (w.alloc (.cells #[.slice A1 n c1, .slice A2 ns.length c2, .bool false] 91)) := (Below.refl _ _).alloc (Nat.le_refl _) _
  have HB0 := Lib.hid hb0
  clear hb0
  have hmm := mkmap
  by_cases hgt : ps.length < n
  · have hgt' : (ps.length : Int) < (n : Int) := by omega
    go_enter Try.func32, Try.ntmps32
    go_wp2_with (go_at_call 40; refine (errI_any _ g _ (HC.out _ HB0.out).1 (HC.out _ HB0.out).2).mono ?_; rintro e w' ⟨⟨u, rfl⟩, hbw⟩)
    go_ret
    exact .bad (bnext HB0.out hbw) (fun h => by have := h.1; omega)
  · have hgt' : (n : Int) ≤ (ps.length : Int) := by omega
    have hnp : n ≤ ps.length := by omega
    clear hgt
    go_enter Try.func32, Try.ntmps32
    go_wp2_with fail
    rw [show decide (ps.length < n) = false from decide_eq_false (by omega)]
    go_loopw [42] (fun i wr => ∃ k : Nat, k ≤ ps.length ∧ i = .int .i64 k ∧ Hid (MapAt wr (w.heap.size + 1) k (ps.take k)) ∧ Hid (wr.heap[w.heap.size]? = some (.cells #[.slice A1 n c1, .slice A2 ns.length c2, .bool false] 91)) ∧ Below w.heap.size w wr) (fun i _ => ps.length - (intOf i).toNat)
    case atStart => exact ⟨0, Nat.zero_le _, rfl, Lib.hid (by have := World.ownsMap_made (w.alloc (.cells #[.slice A1 n c1, .slice A2 ns.length c2, .bool false] 91)) Try.prog 103 elB; rw [World.size_alloc] at this; exact this), Lib.hid (heap_after (heap_alloc_new w _) _), HB0.out.alloc (by simp) _⟩
    case round =>
      obtain ⟨k, hk, rfl, HM, HX, hb⟩ := hrel
      have hsz := hb.size
      have hxl := (Array.getElem?_eq_some_iff.1 HX.out).1
      by_cases hlt : k < ps.length
      · have hlt' : (k : Int) < (ps.length : Int) := by omega
        obtain ⟨b, off, d, o, hA, hB, ca, cb, _, hd⟩ := par_at (HPr.out.below hb (Nat.le_refl _)) HP.out hlt
        subst hA
        have hkey := key_ok ps[k] (HZP.out _ (List.getElem_mem hlt))
        have hd1 : d = .nilIface ∨ ∃ p, d = .iface 113 p := by
          cases o with
          | true => exact .inr (by simpa [DefOk] using hd)
          | false => exact .inl (by simpa [DefOk] using hd)
        rcases hd1 with rfl | ⟨p, rfl⟩
        all_goals
          go_wp2_with (at_mapUpdate; refine wpList_mapUpdate_own _ rfl _ _ _ 100 rfl 103 4 keyed Try.underlying100 _ (w.heap.size + 1) k _ rfl (HM.out.alloc _) (by unfold maxLen; omega) _ _ (kl ps[k]) rfl rfl hkey tt [] val_ok ?_; intro w1 hown1 hgrow1)
          have hM1 : MapAt w1 (w.heap.size + 1) (k + 1) (ps.take (k + 1)) := by rw [take_snoc _ _ hlt]; exact MapAt.put hown1
          have hX1 : w1.heap[w.heap.size]? = some (Obj.cells #[.slice A1 n c1, .slice A2 ns.length c2, .bool false] 91) := (hgrow1.block w.heap.size (by simp; omega) (by simp)).trans (heap_after HX.out _)
          have hb1 : Below w.heap.size w w1 := (hb.alloc hsz _).grown hgrow1 (by simp; omega) (fun k hk => by injection hk; omega)
          have HM1 := Lib.hid hM1
          have HX1 := Lib.hid hX1
          have HB1 := Lib.hid hb1
          clear hM1 hX1 hb1 hown1 hgrow1
          go_wp2_with fail
          go_roundw
          case rel => exact ⟨k + 1, by omega, by go_num, HM1, HX1, HB1.out⟩
          case measure => simp [intOf]; omega
      · obtain rfl : k = ps.length := by omega
        have hM := HM.out
        rw [List.take_length] at hM
        have hm1 : w.heap.size + 1 < wr.heap.size := World.ownsMap.lt hM
        have HMA := Lib.hid (show MapAt (wr.alloc (.map #[] 0)) (w.heap.size + 1) ps.length ps from World.ownsMap.alloc hM _)
        have HMB := Lib.hid (show MapAt (wr.alloc (.map #[] 0)) wr.heap.size 0 [] from World.ownsMap_made wr Try.prog 103 elB)
        have HXX := Lib.hid (heap_after HX.out (.map #[] 0))
        have HBB := Lib.hid (hb.alloc hsz (.map #[] 0))
        have g0 : wr.cell? ⟨w.heap.size, 0, none⟩ = some (.slice A1 n c1) := by rw [heap_cell HX.out]; rfl
        have g1 : wr.cell? ⟨w.heap.size, 1, none⟩ = some (.slice A2 ns.length c2) := by rw [heap_cell HX.out]; rfl
        clear hM HM hb
        go_wp2_with fail
        generalize wr.alloc (Obj.map #[] 0) = W2 at HMA HMB HXX HBB ⊢
        generalize wr.heap.size = b2 at hm1 hsz HMB ⊢
        clear HX g0 g1 hxl
        go_loopw [57] (fun i wr => ∃ k : Nat, k ≤ n ∧ i = .int .i64 k ∧ Hid (MapAt wr b2 k (ps.take k)) ∧ Hid (MapAt wr (w.heap.size + 1) ps.length ps) ∧ Hid (wr.heap[w.heap.size]? = some (.cells #[.slice A1 n c1, .slice A2 ns.length c2, .bool false] 91)) ∧ Below w.heap.size w wr) (fun i _ => n - (intOf i).toNat)
        case atStart => exact ⟨0, Nat.zero_le _, rfl, HMB, HMA, HXX, HBB.out⟩
        case round =>
          obtain ⟨k, hk, rfl, HM, HMA, HX, hb⟩ := hrel
          have hsz2 := hb.size
          have hxl := (Array.getElem?_eq_some_iff.1 HX.out).1
          have hbl := World.ownsMap.lt HM.out
          by_cases hlt : k < n
          · have hlt' : (k : Int) < (n : Int) := by omega
            have hltp : k < ps.length := by omega
            have hltp' : (k : Int) < (ps.length : Int) := by omega
            obtain ⟨b, off, d, o, hA, hB, ca, cb, _, _⟩ := par_at (HPr.out.below hb (Nat.le_refl _)) HP.out hltp
            subst hA
            have hkey := key_ok ps[k] (HZP.out _ (List.getElem_mem hltp))
            go_wp2_with (at_mapUpdate; refine wpList_mapUpdate_own _ rfl _ _ _ 100 rfl 103 4 keyed Try.underlying100 _ b2 k _ rfl HM.out (by unfold maxLen; omega) _ _ (kl ps[k]) rfl rfl hkey tt [] val_ok ?_; intro w1 hown1 hgrow1)
            have hM1 : MapAt w1 b2 (k + 1) (ps.take (k + 1)) := by rw [take_snoc _ _ hltp]; exact MapAt.put hown1
            have hA1 : MapAt w1 (w.heap.size + 1) ps.length ps := World.ownsMap.kept HMA.out hgrow1 (by intro h; injection h; omega)
            have hX1 : w1.heap[w.heap.size]? = some (Obj.cells #[.slice A1 n c1, .slice A2 ns.length c2, .bool false] 91) := (hgrow1.block w.heap.size (by omega) (by intro h; injection h; omega)).trans HX.out
            have hb1 : Below w.heap.size w w1 := hb.grown hgrow1 (by omega) (fun k hk => by injection hk; omega)
            have HM1 := Lib.hid hM1
            have HA1 := Lib.hid hA1
            have HX1 := Lib.hid hX1
            have HB1 := Lib.hid hb1
            clear hM1 hX1 hb1 hown1 hgrow1 hA1
            go_wp2_with fail
            go_roundw
            case rel => exact ⟨k + 1, by omega, by go_num, HM1, HA1, HX1, HB1.out⟩
            case measure => simp [intOf]; omega
          · obtain rfl : k = n := by omega
            have g1 : wr.cell? ⟨w.heap.size, 1, none⟩ = some (.slice A2 ns.length c2) := by rw [heap_cell HX.out]; rfl
            have HB := Lib.hid hb
            clear hb hk hlt
            go_wp2_with fail
            go_loopw [70] (fun i wr => ∃ j : Nat, j ≤ ns.length ∧ i = .int .i64 j ∧ Hid (MapAt wr b2 (k + j) (ps.take k ++ ns.take j)) ∧ Hid (MapAt wr (w.heap.size + 1) ps.length ps) ∧ Hid (∀ m, m < j → NamOk ps k ns m) ∧ Below w.heap.size w wr) (fun i _ => ns.length - (intOf i).toNat)
            case atStart => exact ⟨0, Nat.zero_le _, rfl, by simpa using HM, HMA, Lib.hid (fun m h => by omega), HB.out⟩
            case round =>
              obtain ⟨j, hj, rfl, HM, HMA, HO, hb⟩ := hrel
              have hsz3 := hb.size
              have hbl := World.ownsMap.lt HM.out
              by_cases hlt : j < ns.length
              · have hlt' : (j : Int) < (ns.length : Int) := by omega
                obtain ⟨b, off, gp, hA, hB, ca, cb⟩ := nam_at (HNr.out.below hb (Nat.le_refl _)) HN.out hlt
                subst hA
                have hkey := key_ok ns[j] (HZN.out _ (List.getElem_mem hlt))
                have hin1 := has_keys (ps.take k ++ ns.take j) ns[j]
                have hin2 := has_keys ps ns[j]
                have hM3 := World.ownsMap.alloc HM.out (.cells #[.pointer gp, .string ns[j]] 108)
                have hA3 := World.ownsMap.alloc HMA.out (.cells #[.pointer gp, .string ns[j]] 108)
                obtain ⟨v1, p1, hrun1, _⟩ := hM3.look_ok keyed Try.underlying100 (zero_bool _) val_no hkey
                obtain ⟨v2, p2, hrun2, _⟩ := hA3.look_ok keyed Try.underlying100 (zero_bool _) val_no hkey
                have hb3 := hb.alloc hsz3 (.cells #[.pointer gp, .string ns[j]] 108)
                have HB3 := Lib.hid hb3
                have HM3 := Lib.hid hM3
                have HA3 := Lib.hid hA3
                have HI1 := Lib.hid hin1
                have HI2 := Lib.hid hin2
                clear hin1 hin2 hb3 hM3 hA3
                cases h1 : Maps.has (Maps.setOf tt (keys (ps.take k ++ ns.take j))) (kl ns[j]) with
                | true =>
                  have HN1 := Lib.hid (show ¬ArgsOk ps os k ns from fun h => by
                    obtain ⟨_, h2, _⟩ := h.2.1 j hlt
                    exact h2 (HI1.out.1 h1))
                  rw [h1] at hrun1
                  clear h1
                  go_wp2_with (go_at_call 40; refine (errI_any _ g _ (HC.out _ HB3.out).1 (HC.out _ HB3.out).2).mono ?_; rintro e w' ⟨⟨u, rfl⟩, hbw⟩)
                  go_ret
                  exact .bad (bnext HB3.out hbw) HN1.out
                | false =>
                  rw [h1] at hrun1
                  have HN1 := Lib.hid (show ns[j] ∉ ps.take k ++ ns.take j from fun h => by rw [HI1.out.2 h] at h1; cases h1)
                  clear h1
                  cases h2 : Maps.has (Maps.setOf tt (keys ps)) (kl ns[j]) with
                  | false =>
                    have HN2 := Lib.hid (show ¬ArgsOk ps os k ns from fun h => by
                      obtain ⟨_, _, h3⟩ := h.2.1 j hlt
                      rw [HI2.out.2 h3] at h2
                      cases h2)
                    rw [h2] at hrun2
                    clear h2
                    go_wp2_with (go_at_call 40; refine (errI_any _ g _ (HC.out _ HB3.out).1 (HC.out _ HB3.out).2).mono ?_; rintro e w' ⟨⟨u, rfl⟩, hbw⟩)
                    go_ret
                    exact .bad (bnext HB3.out hbw) HN2.out
                  | true =>
                    have HN3 := Lib.hid (show NamOk ps k ns j from ⟨hlt, HN1.out, HI2.out.1 h2⟩)
                    rw [h2] at hrun2
                    clear h2
                    go_wp2_with (at_mapUpdate; refine wpList_mapUpdate_own _ rfl _ _ _ 100 rfl 103 4 keyed Try.underlying100 _ b2 (k + j) _ rfl HM3.out (by unfold maxLen; omega) _ _ (kl ns[j]) rfl rfl hkey tt [] val_ok ?_; intro w1 hown1 hgrow1)
                    have hM1 : MapAt w1 b2 (k + (j + 1)) (ps.take k ++ ns.take (j + 1)) := by rw [take_snoc _ _ hlt, ← List.append_assoc]; exact MapAt.put hown1
                    have hA1 : MapAt w1 (w.heap.size + 1) ps.length ps := World.ownsMap.kept HA3.out hgrow1 (by intro h; injection h; omega)
                    have hb1 : Below w.heap.size w w1 := HB3.out.grown hgrow1 (by simp; omega) (fun k hk => by injection hk; omega)
                    have hO1 : ∀ m, m < j + 1 → NamOk ps k ns m := fun m hm => by
                      rcases Nat.lt_or_ge m j with h | h
                      · exact HO.out m h
                      · obtain rfl : m = j := by omega
                        exact HN3.out
                    have HM1 := Lib.hid hM1
                    have HA1 := Lib.hid hA1
                    have HO1 := Lib.hid hO1
                    have HB1 := Lib.hid hb1
                    clear hM1 hb1 hown1 hgrow1 hA1 hO1 hrun1 hrun2
                    go_wp2_with fail
                    go_roundw
                    case rel => exact ⟨j + 1, by omega, by go_num, HM1, HA1, HO1, HB1.out⟩
                    case measure => simp [intOf]; omega
              · obtain rfl : j = ns.length := by omega
                have hM := HM.out
                rw [List.take_length] at hM
                have HM2 := Lib.hid hM
                have HB := Lib.hid hb
                clear hb hj hlt hM HM HMA
                go_wp2_with fail
                go_loopw [101] (fun i wr => ∃ j : Nat, j ≤ ps.length ∧ i = .int .i64 j ∧ Hid (MapAt wr b2 (k + ns.length) (ps.take k ++ ns)) ∧ Hid (∀ m, m < j → GotOk ps os k ns m) ∧ Below w.heap.size w wr) (fun i _ => ps.length - (intOf i).toNat)
                case atStart => exact ⟨0, Nat.zero_le _, rfl, HM2, Lib.hid (fun m h => by omega), HB.out⟩
                case round =>
                  obtain ⟨j, hj, rfl, HM, HG, hb⟩ := hrel
                  have hsz4 := hb.size
                  have hbl := World.ownsMap.lt HM.out
                  by_cases hlt : j < ps.length
                  · have hlt' : (j : Int) < (ps.length : Int) := by omega
                    obtain ⟨b, off, d, o, hA, hB, ca, cb, ho, hd⟩ := par_at (HPr.out.below hb (Nat.le_refl _)) HP.out hlt
                    subst hA
                    have hkey := key_ok ps[j] (HZP.out _ (List.getElem_mem hlt))
                    have hin1 := has_keys (ps.take k ++ ns) ps[j]
                    have hM3 := World.ownsMap.alloc HM.out (.cells #[d, .string ps[j]] 105)
                    obtain ⟨v1, p1, hrun1, _⟩ := hM3.look_ok keyed Try.underlying100 (zero_bool _) val_no hkey
                    have HM3 := Lib.hid hM3
                    have HB3 := Lib.hid (hb.alloc hsz4 (.cells #[d, .string ps[j]] 105))
                    have HI1 := Lib.hid hin1
                    have HOO := Lib.hid ho
                    clear hin1 hM3 ho
                    have next : GotOk ps os k ns j → ∀ m, m < j + 1 → GotOk ps os k ns m := fun hg m hm => by
                      rcases Nat.lt_or_ge m j with h | h
                      · exact HG.out m h
                      · obtain rfl : m = j := by omega
                        exact hg
                    cases h1 : Maps.has (Maps.setOf tt (keys (ps.take k ++ ns))) (kl ps[j]) with
                    | true =>
                      have HG1 := Lib.hid (next ⟨hlt, .inl (HI1.out.1 h1)⟩)
                      rw [h1] at hrun1
                      have hd1 : d = .nilIface ∨ ∃ p, d = .iface 113 p := by
                        cases o with
                        | true => exact .inr (by simpa [DefOk] using hd)
                        | false => exact .inl (by simpa [DefOk] using hd)
                      clear h1 next hd
                      rcases hd1 with rfl | ⟨p, rfl⟩
                      all_goals
                        go_wp2_with fail
                        go_roundw
                        case rel => exact ⟨j + 1, by omega, by go_num, Lib.hid (by exact HM3.out), HG1, HB3.out⟩
                        case measure => simp [intOf]; omega
                    | false =>
                      rw [h1] at hrun1
                      cases o with
                      | true =>
                        obtain ⟨p, rfl⟩ : ∃ p, d = .iface 113 p := by simpa [DefOk] using hd
                        have HG1 := Lib.hid (next ⟨hlt, .inr HOO.out⟩)
                        clear h1 next hd
                        go_wp2_with fail
                        go_roundw
                        case rel => exact ⟨j + 1, by omega, by go_num, Lib.hid (by exact HM3.out), HG1, HB3.out⟩
                        case measure => simp [intOf]; omega
                      | false =>
                        obtain rfl : d = .nilIface := by simpa [DefOk] using hd
                        have HN1 := Lib.hid (show ¬ArgsOk ps os k ns from fun h => by
                          obtain ⟨_, h2 | h2⟩ := h.2.2 j hlt
                          · rw [HI1.out.2 h2] at h1; cases h1
                          · rw [HOO.out] at h2; cases h2)
                        clear h1 next hd
                        go_wp2_with (go_at_call 40; refine (errI_any _ g _ (HC.out _ HB3.out).1 (HC.out _ HB3.out).2).mono ?_; rintro e w' ⟨⟨u, rfl⟩, hbw⟩)
                        go_ret
                        exact .bad (bnext HB3.out hbw) HN1.out
                  · obtain rfl : j = ps.length := by omega
                    have HA := Lib.hid (show ArgsOk ps os k ns from ⟨hnp, HO.out, HG.out⟩)
                    have HB := Lib.hid hb
                    clear hb
                    go_wp2_with fail
                    go_ret
                    exact ⟨_, rfl, HB.out, .inl ⟨rfl, HA.out⟩⟩
end Go.Proofs.Ytlbgmcpjdfoalaa
