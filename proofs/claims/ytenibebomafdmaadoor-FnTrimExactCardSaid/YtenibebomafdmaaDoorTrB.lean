/- What is left without white space at its ends: spec.Trim. -/
import Derived.Test.YtenibebomafdmaaDoorTrA
import Derived.Test.YtenibebomafdmaaDoorPtB
namespace Go.Proofs.YtenibebomafdmaaDoor
open Go.RowKit Rune
set_option linter.unusedSimpArgs false

def pS (n : Nat) : Bool := isS (n : Int)
def trimL (l : List Nat) : List Nat := l.dropWhile pS
def trimR (l : List Nat) : List Nat := (l.reverse.dropWhile pS).reverse
theorem trimL_nil : trimL [] = [] := rfl
theorem trimL_yes {x : Nat} {l : List Nat} (h : pS x = true) : trimL (x :: l) = trimL l := by simp [trimL, List.dropWhile, h]
theorem trimL_no {x : Nat} {l : List Nat} (h : pS x = false) : trimL (x :: l) = x :: l := by simp [trimL, List.dropWhile, h]
theorem trimR_nil : trimR [] = [] := rfl
theorem trimR_yes {x : Nat} {l : List Nat} (h : pS x = true) : trimR (l ++ [x]) = trimR l := by simp [trimR, List.dropWhile, h]
theorem trimR_no {x : Nat} {l : List Nat} (h : pS x = false) : trimR (l ++ [x]) = l ++ [x] := by simp [trimR, List.dropWhile, h]

def AllFine (l : List Nat) : Prop := ∀ n ∈ l, Fine (n : Int)
def TrimP (l : List Nat) (w : World) (e : Ending) (w' : World) : Prop :=
  w' = w ∧ ((∃ v, e = .returned (.tuple #[v, .bool false])) ∨ ∃ v, e = .returned (.tuple #[v, .bool true]) ∧ AllFine l ∧ RowU w w.heap.size v (trimR (trimL l)))

def lenOf (v : Value) : Nat := match v with | .slice _ n _ => n | _ => 0

theorem rowU_tail {w : World} {B b off c x : Nat} {l : List Nat} (h : RowV w B (.slice (some ⟨b, off, none⟩) (x :: l).length c) (units (x :: l))) (hc : (x :: l).length ≤ c) : RowU w B (.slice (some ⟨b, off + 1, none⟩) l.length (c - 1)) l := by
  refine ⟨_, _, rfl, by simp at hc; omega, some ⟨b, off + 1, none⟩, c - 1, by rw [units_len], fun hn => ?_⟩
  obtain ⟨A', c', hv, h⟩ := h
  obtain ⟨b', off', hA, hb, hcell⟩ := h (by simp [units])
  injection hv with h1
  rw [hA] at h1
  injection h1 with h1
  injection h1 with e1 e2
  subst e1 e2
  refine ⟨b, off + 1, rfl, hb, fun j u hu => ?_⟩
  have := hcell (j + 1) u (by simpa [units] using hu)
  rw [show off + 1 + j = off + (j + 1) by omega]
  exact this
theorem rowU_front {w : World} {B c x : Nat} {A : Option Addr} {l : List Nat} (h : RowV w B (.slice A (l ++ [x]).length c) (units (l ++ [x]))) (hc : (l ++ [x]).length ≤ c) : RowU w B (.slice A l.length c) l := by
  refine ⟨_, _, rfl, by simp at hc; omega, A, c, by rw [units_len], fun hn => ?_⟩
  obtain ⟨A', c', hv, h⟩ := h
  obtain ⟨b', off', hA, hb, hcell⟩ := h (by simp [units])
  injection hv with h1
  refine ⟨b', off', h1.trans hA, hb, fun j u hu => ?_⟩
  refine hcell j u ?_
  have hj := (List.getElem?_eq_some_iff.1 hu).1
  rw [show units (l ++ [x]) = units l ++ [.int .i64 x] by simp [units], List.getElem?_append_left hj]
  exact hu

theorem units_last (l : List Nat) (y : Nat) : (units (l ++ [y]))[l.length]? = some (.int .i64 (y : Nat)) := by simp [units]
theorem RowV.nil' (w : World) (B c : Nat) (A : Option Addr) : RowV w B (.slice A 0 c) (units []) := ⟨A, c, rfl, fun h => by simp [units] at h⟩
set_option maxRecDepth 100000 in
set_option maxHeartbeats 4000000 in
theorem trim_any (v : Value) (l : List Nat) (w : World) (hr : RowU w w.heap.size v l) (hl : l.length ≤ 2000) : Calls Tryd.prog 5 #[v] w (TrimP l w) := by
  have H0 := Lib.hid hr
  obtain ⟨A, c, rfl, hc, hr⟩ := hr
  have H := Lib.hid hr
  clear hr
  go_enter Tryd.func5, Tryd.ntmps5
  go_wp2
  go_loop [4] (fun i => ∃ k : Nat, k ≤ l.length ∧ i = .int .i64 k ∧ Hid (∀ (j n : Nat), j < k → l[j]? = some n → Fine (n : Int))) (fun i => l.length - (intOf i).toNat)
  case atStart => exact ⟨0, Nat.zero_le _, rfl, Lib.hid (fun j n h => by omega)⟩
  case round =>
    obtain ⟨k, hk, rfl, HK⟩ := hrel
    by_cases hlt : k < l.length
    · have hlt' : (k : Int) < (l.length : Int) := by omega
      have hg := List.getElem?_eq_getElem hlt
      obtain ⟨b, off, rfl, hb, hcell⟩ := H.out.get (k := k) (u := .int .i64 (l[k] : Nat)) (by simp [units, hlt])
      have HG := Lib.hid hg
      clear hg
      generalize l[k] = x at hcell HG
      go_wp2_with fail
      refine (mayBe_any x _).mono ?_
      rintro e w ⟨q, rfl, rfl, hq⟩
      cases q
      · have HF := Lib.hid (hq rfl)
        clear hq
        go_wp2_with fail
        go_round
        case rel =>
          refine ⟨k + 1, by omega, by go_num, Lib.hid fun j n hj hn => ?_⟩
          rcases Nat.lt_or_ge j k with h | h
          · exact HK.out j n h hn
          · obtain rfl : j = k := by omega
            rw [HG.out] at hn
            injection hn with hn
            rw [← hn]
            exact HF.out
        case measure => simp [intOf]; omega
      · go_wp2_with fail
        go_ret2
        exact ⟨rfl, .inl ⟨_, rfl⟩⟩
    · obtain rfl : k = l.length := by omega
      have HFine := Lib.hid (show AllFine l from fun n hn => by
        obtain ⟨j, hj, rfl⟩ := List.mem_iff_getElem.1 hn
        exact HK.out j _ hj (List.getElem?_eq_getElem hj))
      clear HK
      go_wp2_with fail
      go_loop [0] (fun v => ∃ l' : List Nat, RowU w w.heap.size v l' ∧ l'.length ≤ l.length ∧ Hid (trimL l' = trimL l)) (fun v => lenOf v)
      case atStart => exact ⟨l, H0.out, Nat.le_refl _, Lib.hid rfl⟩
      case round =>
        obtain ⟨l', hr, hle, HT⟩ := hrel
        obtain ⟨A', c', rfl, hc', hr⟩ := hr
        cases l' with
        | nil =>
          clear hr
          go_wp2_with fail
          go_loop [0] (fun v => ∃ l' : List Nat, RowU w w.heap.size v l' ∧ l'.length ≤ l.length ∧ Hid (trimR l' = trimR (trimL l))) (fun v => lenOf v)
          case atStart => exact ⟨[], ⟨A', c', rfl, by simp, RowV.nil' _ _ _ _⟩, by simp, Lib.hid (by rw [← HT.out]; rfl)⟩
          case round =>
            obtain ⟨l', hr, hle, HT⟩ := hrel
            obtain ⟨A', c', rfl, hc', hr⟩ := hr
            rcases List.eq_nil_or_concat l' with rfl | ⟨l2, y, rfl⟩
            · have HEnd := Lib.hid (show RowU w w.heap.size (.slice A' 0 c') (trimR (trimL l)) by rw [← HT.out, trimR_nil]; exact ⟨A', c', rfl, Nat.zero_le _, RowV.nil' _ _ _ _⟩)
              clear hr
              go_wp2_with fail
              go_ret2
              exact ⟨rfl, .inr ⟨_, rfl, HFine.out, HEnd.out⟩⟩
            · rw [List.concat_eq_append] at hr HT hle hc' ⊢
              obtain ⟨b, off, rfl, hb, hcell⟩ := hr.get (k := l2.length) (u := .int .i64 (y : Nat)) (units_last l2 y)
              have HR := Lib.hid hr
              clear hr
              have hlen : (l2 ++ [y]).length = l2.length + 1 := by simp
              rw [hlen] at HR hc' hle ⊢
              have hn0 : (0 : Int) ≤ (l2.length : Int) := by omega
              cases hx : pS y with
              | true =>
                have HT2 := Lib.hid (show trimR l2 = trimR (trimL l) by rw [← HT.out, trimR_yes hx])
                have hx' : isS (y : Int) = true := hx
                clear hx
                go_wp2_with (go_at_call 10; refine (isSpace_any y _).mono ?_; rintro e w' ⟨rfl, rfl⟩)
                go_round
                case rel =>
                  refine ⟨l2, ?_, by omega, HT2⟩
                  exact rowU_front (by rw [hlen]; exact HR.out) (by rw [hlen]; exact hc')
                case measure => simp [lenOf]
              | false =>
                have HEnd := Lib.hid (show RowU w w.heap.size (.slice (some ⟨b, off, none⟩) (l2.length + 1) c') (trimR (trimL l)) by rw [← HT.out, trimR_no hx]; exact ⟨_, _, by rw [hlen], by omega, by rw [hlen]; exact HR.out⟩)
                have hx' : isS (y : Int) = false := hx
                clear hx
                go_wp2_with (go_at_call 10; refine (isSpace_any y _).mono ?_; rintro e w' ⟨rfl, rfl⟩)
                go_ret2
                exact ⟨rfl, .inr ⟨_, rfl, HFine.out, HEnd.out⟩⟩
        | cons x l' =>
          obtain ⟨b, off, rfl, hb, hcell⟩ := hr.get (k := 0) (u := .int .i64 (x : Nat)) (by simp [units])
          have HR := Lib.hid hr
          clear hr
          simp only [Nat.add_zero] at hcell
          have hlen : (x :: l').length = l'.length + 1 := rfl
          rw [hlen] at HR hc' ⊢
          cases hx : pS x with
          | true =>
            have HT2 := Lib.hid (show trimL l' = trimL l by rw [← HT.out, trimL_yes hx])
            have hx' : isS (x : Int) = true := hx
            clear hx
            go_wp2_with (go_at_call 10; refine (isSpace_any x _).mono ?_; rintro e w' ⟨rfl, rfl⟩)
            go_round
            case rel =>
              refine ⟨l', ?_, by omega, HT2⟩
              by_cases h1 : c' = 1
              · have : l' = [] := List.eq_nil_of_length_eq_zero (by omega)
                subst this
                exact ⟨_, _, rfl, by simp, RowV.nil' _ _ _ _⟩
              · rw [if_neg h1]
                exact rowU_tail (by rw [hlen]; exact HR.out) (by rw [hlen]; exact hc')
            case measure => simp [lenOf]
          | false =>
            have hx' : isS (x : Int) = false := hx
            have HT3 := Lib.hid (show x :: l' = trimL l by rw [← HT.out, trimL_no hx])
            clear hx
            go_wp2_with (go_at_call 10; refine (isSpace_any x _).mono ?_; rintro e w' ⟨rfl, rfl⟩)
            go_loop [0] (fun v => ∃ l' : List Nat, RowU w w.heap.size v l' ∧ l'.length ≤ l.length ∧ Hid (trimR l' = trimR (trimL l))) (fun v => lenOf v)
            case atStart => exact ⟨x :: l', ⟨_, _, by rw [hlen], by omega, by rw [hlen]; exact HR.out⟩, by omega, Lib.hid (by rw [HT3.out])⟩
            case round =>
              obtain ⟨l', hr, hle, HT⟩ := hrel
              obtain ⟨A', c', rfl, hc', hr⟩ := hr
              rcases List.eq_nil_or_concat l' with rfl | ⟨l2, y, rfl⟩
              · have HEnd := Lib.hid (show RowU w w.heap.size (.slice A' 0 c') (trimR (trimL l)) by rw [← HT.out, trimR_nil]; exact ⟨A', c', rfl, Nat.zero_le _, RowV.nil' _ _ _ _⟩)
                clear hr
                go_wp2_with fail
                go_ret2
                exact ⟨rfl, .inr ⟨_, rfl, HFine.out, HEnd.out⟩⟩
              · rw [List.concat_eq_append] at hr HT hle hc' ⊢
                obtain ⟨b, off, rfl, hb, hcell⟩ := hr.get (k := l2.length) (u := .int .i64 (y : Nat)) (units_last l2 y)
                have HR := Lib.hid hr
                clear hr
                have hlen : (l2 ++ [y]).length = l2.length + 1 := by simp
                rw [hlen] at HR hc' hle ⊢
                have hn0 : (0 : Int) ≤ (l2.length : Int) := by omega
                cases hx : pS y with
                | true =>
                  have HT2 := Lib.hid (show trimR l2 = trimR (trimL l) by rw [← HT.out, trimR_yes hx])
                  have hx' : isS (y : Int) = true := hx
                  clear hx
                  go_wp2_with (go_at_call 10; refine (isSpace_any y _).mono ?_; rintro e w' ⟨rfl, rfl⟩)
                  go_round
                  case rel =>
                    refine ⟨l2, ?_, by omega, HT2⟩
                    exact rowU_front (by rw [hlen]; exact HR.out) (by rw [hlen]; exact hc')
                  case measure => simp [lenOf]
                | false =>
                  have HEnd := Lib.hid (show RowU w w.heap.size (.slice (some ⟨b, off, none⟩) (l2.length + 1) c') (trimR (trimL l)) by rw [← HT.out, trimR_no hx]; exact ⟨_, _, by rw [hlen], by omega, by rw [hlen]; exact HR.out⟩)
                  have hx' : isS (y : Int) = false := hx
                  clear hx
                  go_wp2_with (go_at_call 10; refine (isSpace_any y _).mono ?_; rintro e w' ⟨rfl, rfl⟩)
                  go_ret2
                  exact ⟨rfl, .inr ⟨_, rfl, HFine.out, HEnd.out⟩⟩
end Go.Proofs.YtenibebomafdmaaDoor
