/- The contracts of spec.United, of the comparisons of lists and of zzFits5. -/
import Derived.Test.YtadehfoamdkcmaaUnF
import Derived.WalkSmall
namespace Go.Proofs.Ytadehfoamdkcmaa
open Go.RowKit Val
set_option linter.unusedSimpArgs false

def AnyBool (w : World) (e : Ending) (w' : World) : Prop := ∃ b : Bool, e = .returned (.bool b) ∧ w = w'
set_option maxRecDepth 100000 in
set_option maxHeartbeats 400000 in
theorem fits5_any (cv : Value) (ss : List ByteArray) (w : World) (B : Nat) (hr : RowV w B cv (strs ss)) (hl : ss.length ≤ 9223372036854775807) :
    Calls Try.prog 4 #[cv] w (AnyBool w) := by
  obtain ⟨A, c, rfl⟩ := hr.form
  have H := Lib.hid hr
  clear hr
  go_enter Try.func4, Try.ntmps4
  go_wp2
  · go_ret; exact ⟨_, rfl, rfl⟩
  · go_loop [10] (fun i => ∃ k : Nat, k ≤ ss.length ∧ i = .int .i64 k) (fun i => ss.length - (intOf i).toNat)
    case atStart => exact ⟨0, Nat.zero_le _, rfl⟩
    case round =>
      obtain ⟨k, hk, rfl⟩ := hrel
      by_cases hlt : k < ss.length
      · obtain ⟨b, off, rfl, hb, hcell⟩ := H.out.at_ hlt
        go_wp2
        · go_ret; exact ⟨_, rfl, rfl⟩
        · go_round
          case rel => exact ⟨k + 1, by omega, by go_num⟩
          case measure => simp [intOf]; omega
      · go_wp2
        go_ret; exact ⟨_, rfl, rfl⟩

/-! ### two lists that are the same -/
def TrueP (w : World) (e : Ending) (w' : World) : Prop := e = .returned (.bool true) ∧ Below w.heap.size w w'
set_option maxRecDepth 100000 in
set_option maxHeartbeats 1000000 in
theorem sameN_any (av bv : Value) (L : List (Nm × Int)) (w : World) (ha : RowV w w.heap.size av (nms L)) (hb : RowV w w.heap.size bv (nms L)) (hl : L.length ≤ 400) : Calls Try.prog 7 #[av, bv] w (TrueP w) := by
  obtain ⟨A0, c0, rfl⟩ := ha.form'
  obtain ⟨A1, c1, rfl⟩ := hb.form'
  rw [nms_len] at *
  have HA := Lib.hid ha
  have HB := Lib.hid hb
  clear ha hb
  go_enter Try.func7, Try.ntmps7
  go_wp2_with fail
  go_loopw [5] (fun i wr => ∃ k : Nat, k ≤ L.length ∧ i = .int .i64 k ∧ Below w.heap.size w wr) (fun i _ => L.length - (intOf i).toNat)
  case atStart => exact ⟨0, Nat.zero_le _, rfl, Below.refl _ _⟩
  case round =>
    obtain ⟨k, hk, rfl, hbl⟩ := hrel
    by_cases hlt : k < L.length
    · have hlt' : (k : Int) < (L.length : Int) := by omega
      obtain ⟨b8, o8, rfl, _, hc8⟩ := (HA.out.below hbl (Nat.le_refl _)).get (k := k) (u := encStr L[k].1) (by simp [nms, hlt])
      obtain ⟨b6, o6, rfl, _, hc6⟩ := (HB.out.below hbl (Nat.le_refl _)).get (k := k) (u := encStr L[k].1) (by simp [nms, hlt])
      rw [encStr_strOfN] at hc8 hc6
      have t2 : ((strOfN L[k].1).toList == (strOfN L[k].1).toList) = true := by simp
      generalize strOfN L[k].1 = sx at *
      have HB1 := Lib.hid hbl
      clear hbl
      go_wp2_with fail
      go_quiet (fail)
      go_wp2_with fail
      go_roundw
      case rel => exact ⟨k + 1, by omega, by go_num, below_drewN HB1.out _⟩
      case measure => simp [intOf]; omega
    · obtain rfl : k = L.length := by omega
      have HB1 := Lib.hid hbl
      clear hbl
      go_wp2_with fail
      go_ret
      exact ⟨rfl, HB1.out⟩
set_option maxRecDepth 100000 in
set_option maxHeartbeats 1000000 in
theorem sameV_any (av bv : Value) (L : List (Nm × Int)) (w : World) (ha : RowV w w.heap.size av (vls L)) (hb : RowV w w.heap.size bv (vls L)) (hl : L.length ≤ 400) : Calls Try.prog 8 #[av, bv] w (TrueP w) := by
  obtain ⟨A0, c0, rfl⟩ := ha.form'
  obtain ⟨A1, c1, rfl⟩ := hb.form'
  rw [vls_len] at *
  have HA := Lib.hid ha
  have HB := Lib.hid hb
  clear ha hb
  go_enter Try.func8, Try.ntmps8
  go_wp2_with fail
  go_loopw [5] (fun i wr => ∃ k : Nat, k ≤ L.length ∧ i = .int .i64 k ∧ Below w.heap.size w wr) (fun i _ => L.length - (intOf i).toNat)
  case atStart => exact ⟨0, Nat.zero_le _, rfl, Below.refl _ _⟩
  case round =>
    obtain ⟨k, hk, rfl, hbl⟩ := hrel
    by_cases hlt : k < L.length
    · have hlt' : (k : Int) < (L.length : Int) := by omega
      obtain ⟨b8, o8, rfl, _, hc8⟩ := (HA.out.below hbl (Nat.le_refl _)).get (k := k) (u := .int .i64 L[k].2) (by simp [vls, ints, hlt])
      obtain ⟨b6, o6, rfl, _, hc6⟩ := (HB.out.below hbl (Nat.le_refl _)).get (k := k) (u := .int .i64 L[k].2) (by simp [vls, ints, hlt])
      generalize L[k].2 = y at *
      have HB1 := Lib.hid hbl
      clear hbl
      go_wp2_with fail
      go_quiet (fail)
      go_wp2_with fail
      go_roundw
      case rel => exact ⟨k + 1, by omega, by go_num, below_drewN HB1.out _⟩
      case measure => simp [intOf]; omega
    · obtain rfl : k = L.length := by omega
      have HB1 := Lib.hid hbl
      clear hbl
      go_wp2_with fail
      go_ret
      exact ⟨rfl, HB1.out⟩

/-! ### spec.United -/
def prs (ns : List ByteArray) (xs : List Int) : List (Nm × Int) := (ns.map nm).zip xs
theorem prs_len (ns : List ByteArray) (xs : List Int) (h : ns.length = xs.length) : (prs ns xs).length = ns.length := by simp [prs]; omega
theorem prs_take {ns : List ByteArray} {xs : List Int} {k : Nat} (h1 : k < ns.length) (h2 : k < xs.length) : (prs ns xs).take (k + 1) = (prs ns xs).take k ++ [(nm ns[k], xs[k])] := by
  have hk : k < (prs ns xs).length := by simp [prs]; omega
  rw [take_snoc _ _ hk]
  simp [prs]
def UdL (P : List (Nm × Int)) (v1 v2 : Value) (w wr : World) : Prop := RowV wr wr.heap.size v1 (nms (united P)) ∧ RowV wr wr.heap.size v2 (vls (united P)) ∧ Below w.heap.size w wr
def UdP (P : List (Nm × Int)) (w : World) (e : Ending) (w' : World) : Prop := ∃ v1 v2, e = .returned (.tuple #[v1, v2]) ∧ UdL P v1 v2 w w'

set_option maxRecDepth 100000 in
set_option maxHeartbeats 4000000 in
theorem united_any (xs ys : List Int) (ns ms : List ByteArray) (nv xv mv yv : Value) (w : World) (hn : RowV w w.heap.size nv (strs ns)) (hx : RowV w w.heap.size xv (ints xs)) (hm : RowV w w.heap.size mv (strs ms)) (hy : RowV w w.heap.size yv (ints ys))
    (l1 : ns.length = xs.length) (l2 : ms.length = ys.length) (la : ns.length ≤ 60) (lb : ms.length ≤ 60) : Calls Try.prog 6 #[nv, xv, mv, yv] w (UdP (prs ns xs ++ prs ms ys) w) := by
  obtain ⟨A1, c1, rfl⟩ := hn.form
  obtain ⟨A2, c2, rfl⟩ := hx.formI
  obtain ⟨A3, c3, rfl⟩ := hm.form
  obtain ⟨A4, c4, rfl⟩ := hy.formI
  rw [← l1] at hx ⊢
  rw [← l2] at hy ⊢
  have HN := Lib.hid hn
  have HX := Lib.hid hx
  have HM := Lib.hid hm
  have HY := Lib.hid hy
  have L1 := Lib.hid l1
  have L2 := Lib.hid l2
  clear hn hx hm hy l1 l2
  generalize hP : prs ns xs ++ prs ms ys = P
  have HP := Lib.hid hP
  clear hP
  go_enter Try.func6, Try.ntmps6
  go_wp2_with fail
  have HS := Lib.hid (show UdL ((prs ns xs).take 0) (.slice none 0 0) (.slice none 0 0) w w from ⟨RowV.nil _ _ _, RowV.nil _ _ _, Below.refl _ _⟩)
  go_loopw [8, 9, 10] (fun v1 v2 i wr => ∃ k : Nat, k ≤ ns.length ∧ i = .int .i64 k ∧ Hid (UdL ((prs ns xs).take k) v1 v2 w wr)) (fun _ _ i _ => ns.length - (intOf i).toNat)
  case atStart => exact ⟨0, Nat.zero_le _, rfl, HS⟩
  case round =>
    obtain ⟨k, hk, rfl, HS⟩ := hrel
    by_cases hlt : k < ns.length
    · have hlt' : (k : Int) < (ns.length : Int) := by omega
      have hltx : k < xs.length := by rw [← L1.out]; exact hlt
      obtain ⟨b8, o8, rfl, hb8, hc8⟩ := (HN.out.below HS.out.2.2 (Nat.le_refl _)).at_ hlt
      obtain ⟨b6, o6, rfl, hb6, hc6⟩ := (HX.out.below HS.out.2.2 (Nat.le_refl _)).get (k := k) (u := .int .i64 xs[k]) (by simp [ints, hltx])
      have HT := Lib.hid (prs_take hlt hltx)
      generalize ns[k] = sx at *
      generalize xs[k] = y at *
      have hle : (united ((prs ns xs).take k)).length ≤ 200 := by
        have := (united_all ((prs ns xs).take k)).2.1
        have h2 := List.length_take_le k (prs ns xs)
        omega
      have HBT := Lib.hid (fun W (hW : Below wr.heap.size wr W) => boundTo_any (nm sx) y (united ((prs ns xs).take k)) u8 u9 W ((HS.out.1.below hW (Nat.le_refl _)).more hW.size) ((HS.out.2.1.below hW (Nat.le_refl _)).more hW.size) hle)
      rw [encStr_nm] at HBT
      clear hle
      have lw := HS.out.2.2.size
      have HB0 := Lib.hid HS.out.2.2
      go_wp2_with fail
      go_region_held3 (fun w' => w'.cell? ⟨b8, o8 + k, none⟩ = some (.string sx) ∧ w'.cell? ⟨b6, o6 + k, none⟩ = some (.int .i64 y))
        (first
          | go_keep
          | ((try dsimp only); refine ⟨?_, ?_⟩ <;> first | go_keep | (refine (hb5.cell (p := ⟨b8, o8 + k, none⟩) (Nat.lt_of_lt_of_le hb8 lw)).trans ?_; first | assumption | go_keep) | (refine (hb5.cell (p := ⟨b6, o6 + k, none⟩) (Nat.lt_of_lt_of_le hb6 lw)).trans ?_; first | assumption | go_keep)))
        (first
          | (go_at_call 11; (with_reducible refine (HBT.out _ (by first | exact Below.refl _ _ | exact (Below.refl _ _).drew)).mono ?_); rintro e w5 ⟨v1, v2, rfl, h1, h2, hb5⟩))
      have hS : UdL ((prs ns xs).take (k + 1)) v1 v2 w w5 := by
        have hu : united ((prs ns xs).take (k + 1)) = bnd (nm sx) y (united ((prs ns xs).take k)) := by rw [HT.out, united_snoc]
        exact ⟨by rw [hu]; exact h1, by rw [hu]; exact h2, bnext HB0.out ((Below.refl _ _).drew.trans hb5)⟩
      have HS3 := Lib.hid hS
      clear hS h1 h2 hb5
      go_wp2_with fail
      go_roundw
      case rel => exact ⟨k + 1, by omega, by go_num, HS3⟩
      case measure => simp [intOf]; omega
    · obtain rfl : k = ns.length := by omega
      have HT := Lib.hid (show (prs ns xs).take ns.length = prs ns xs from List.take_of_length_le (by rw [prs_len _ _ L1.out]; exact Nat.le_refl _))
      rw [HT.out] at HS
      obtain ⟨W1, rfl⟩ : ∃ W1, W1 = wr := ⟨_, rfl⟩
      go_wp2_with fail
      have HS0 := Lib.hid (show UdL (prs ns xs ++ (prs ms ys).take 0) u8 u9 w W1 by rw [List.take_zero, List.append_nil]; exact HS.out)
      have hl200 : (prs ns xs).length ≤ 60 := by rw [prs_len _ _ L1.out]; exact la
      clear HT HS
      go_loopw [8, 9, 11] (fun v1 v2 i wr => ∃ k : Nat, k ≤ ms.length ∧ i = .int .i64 k ∧ Hid (UdL (prs ns xs ++ (prs ms ys).take k) v1 v2 w wr)) (fun _ _ i _ => ms.length - (intOf i).toNat)
      case atStart => exact ⟨0, Nat.zero_le _, rfl, HS0⟩
      case round =>
        obtain ⟨k, hk, rfl, HS⟩ := hrel
        by_cases hlt : k < ms.length
        · have hlt' : (k : Int) < (ms.length : Int) := by omega
          have hltx : k < ys.length := by rw [← L2.out]; exact hlt
          obtain ⟨b8, o8, rfl, hb8, hc8⟩ := (HM.out.below HS.out.2.2 (Nat.le_refl _)).at_ hlt
          obtain ⟨b6, o6, rfl, hb6, hc6⟩ := (HY.out.below HS.out.2.2 (Nat.le_refl _)).get (k := k) (u := .int .i64 ys[k]) (by simp [ints, hltx])
          have HT := Lib.hid (prs_take hlt hltx)
          generalize ms[k] = sx at *
          generalize ys[k] = y at *
          have hle : (united (prs ns xs ++ (prs ms ys).take k)).length ≤ 200 := by
            have := (united_all (prs ns xs ++ (prs ms ys).take k)).2.1
            have h2 := List.length_take_le k (prs ms ys)
            rw [List.length_append] at this
            omega
          have HBT := Lib.hid (fun W (hW : Below wr.heap.size wr W) => boundTo_any (nm sx) y (united (prs ns xs ++ (prs ms ys).take k)) u8 u9 W ((HS.out.1.below hW (Nat.le_refl _)).more hW.size) ((HS.out.2.1.below hW (Nat.le_refl _)).more hW.size) hle)
          rw [encStr_nm] at HBT
          clear hle
          have lw := HS.out.2.2.size
          have HB0 := Lib.hid HS.out.2.2
          go_wp2_with fail
          go_region_held3 (fun w' => w'.cell? ⟨b8, o8 + k, none⟩ = some (.string sx) ∧ w'.cell? ⟨b6, o6 + k, none⟩ = some (.int .i64 y))
            (first
              | go_keep
              | ((try dsimp only); refine ⟨?_, ?_⟩ <;> first | go_keep | (refine (hb5.cell (p := ⟨b8, o8 + k, none⟩) (Nat.lt_of_lt_of_le hb8 lw)).trans ?_; first | assumption | go_keep) | (refine (hb5.cell (p := ⟨b6, o6 + k, none⟩) (Nat.lt_of_lt_of_le hb6 lw)).trans ?_; first | assumption | go_keep)))
            (first
              | (go_at_call 11; (with_reducible refine (HBT.out _ (by first | exact Below.refl _ _ | exact (Below.refl _ _).drew)).mono ?_); rintro e w5 ⟨v1, v2, rfl, h1, h2, hb5⟩))
          have hS : UdL (prs ns xs ++ (prs ms ys).take (k + 1)) v1 v2 w w5 := by
            have hu : united (prs ns xs ++ (prs ms ys).take (k + 1)) = bnd (nm sx) y (united (prs ns xs ++ (prs ms ys).take k)) := by rw [HT.out, ← List.append_assoc, united_snoc]
            exact ⟨by rw [hu]; exact h1, by rw [hu]; exact h2, bnext HB0.out ((Below.refl _ _).drew.trans hb5)⟩
          have HS3 := Lib.hid hS
          clear hS h1 h2 hb5
          go_wp2_with fail
          go_roundw
          case rel => exact ⟨k + 1, by omega, by go_num, HS3⟩
          case measure => simp [intOf]; omega
        · obtain rfl : k = ms.length := by omega
          have HT := Lib.hid (show prs ns xs ++ (prs ms ys).take ms.length = P by rw [List.take_of_length_le (by rw [prs_len _ _ L2.out]; exact Nat.le_refl _)]; exact HP.out)
          go_wp2_with fail
          go_ret2
          exact ⟨_, _, rfl, by rw [← HT.out]; exact HS.out⟩
end Go.Proofs.Ytadehfoamdkcmaa
