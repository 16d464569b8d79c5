/- std.substr of code points: the package's functions. -/
import Derived.Test.YtenibebomafdmaaStrB
import Derived.Test.YtenibebomafdmaaModA
namespace Go.Proofs.Ytenibebomafdmaa
open Go.RowKit Rune Val

/-- A string of the package's, below block B, with room for what it holds. -/
def StrW (w : World) (B : Nat) (p : Value) (l : List Nat) : Prop :=
  ∃ g b c, p = .pointer (some ⟨g, 0, none⟩) ∧ g < B ∧ l.length ≤ c ∧ w.cell? ⟨g, 0, none⟩ = some (.slice (some ⟨b, 0, none⟩) l.length c) ∧ RowV w B (.slice (some ⟨b, 0, none⟩) l.length c) (runes l)
theorem StrW.below {w w' : World} {B B' : Nat} {p : Value} {l : List Nat} (h : StrW w B p l) (hb : Below B' w w') (hB : B ≤ B') : StrW w' B p l := by
  obtain ⟨g, b, c, hp, hg, hcl, c0, hr⟩ := h
  exact ⟨g, b, c, hp, hg, hcl, (hb.cell (p := ⟨g, 0, none⟩) (Nat.lt_of_lt_of_le hg hB)).trans c0, hr.below hb hB⟩
theorem StrW.more {w : World} {B B' : Nat} {p : Value} {l : List Nat} (h : StrW w B p l) (hB : B ≤ B') : StrW w B' p l := by
  obtain ⟨g, b, c, hp, hg, hcl, c0, hr⟩ := h
  exact ⟨g, b, c, hp, by omega, hcl, c0, hr.more hB⟩
theorem StrW.toV {w : World} {B : Nat} {p : Value} {l : List Nat} (h : StrW w B p l) : StrV w B p l := by
  obtain ⟨g, b, c, hp, hg, hcl, c0, hr⟩ := h
  exact ⟨g, some ⟨b, 0, none⟩, c, hp, hg, c0, hr⟩
def StrWP (l : List Nat) (w : World) (e : Ending) (w' : World) : Prop := ∃ p, e = .returned (.iface 159 p) ∧ StrW w' w'.heap.size p l ∧ Below w.heap.size w w'

theorem makeStrW_any (l : List Nat) (hv : ∀ n ∈ l, okR n) (hl : l.length ≤ 70368744177664) (w : World) :
    Calls Try.prog 83 #[.string (ofR l)] w (StrWP l w) := by
  have hc := fun w => conv_runes l hv hl w
  clear hv
  go_enter Try.func83, Try.ntmps83
  go_wp2
  go_ret
  have hcap := grownCap_ge w l.length 0 21
  refine ⟨_, rfl, ⟨w.heap.size + 1, w.heap.size, grownCap w l.length 0 21, rfl, by simp, by omega, by simp [go_sem], ?_⟩, (((Below.refl _ _).alloc (Nat.le_refl _) _).alloc (by simp) _).drew⟩
  have h := row_new w l (grownCap w l.length 0 21 - l.length) (w.heap.size + 1) (by omega) (grownCap w l.length 0 21)
  have h2 : RowV ((w.alloc (.cells ((runes l).toArray ++ Array.replicate (grownCap w l.length 0 21 - l.length) (.int .i32 0)) 21)).alloc (Obj.cells #[Value.slice (some ⟨w.heap.size, 0, none⟩) l.length (grownCap w l.length 0 21)] 161)) (w.heap.size + 2) (.slice (some ⟨w.heap.size, 0, none⟩) l.length (grownCap w l.length 0 21)) (runes l) :=
    (h.keep fun b o hb => World.cell?_alloc_lt _ _ ⟨b, o, none⟩ (by simpa using hb)).more (by omega)
  have h3 := h2.more (B' := ((w.alloc (.cells ((runes l).toArray ++ Array.replicate (grownCap w l.length 0 21 - l.length) (.int .i32 0)) 21)).alloc (Obj.cells #[Value.slice (some ⟨w.heap.size, 0, none⟩) l.length (grownCap w l.length 0 21)] 161)).drew.heap.size) (by simp)
  exact h3
theorem strW_any (l : List Nat) (hv : ∀ n ∈ l, okR n) (hl : l.length ≤ 70368744177664) (w : World) :
    Calls Try.prog 63 #[.string (ofR l)] w (StrWP l w) := by
  go_enter Try.func63, Try.ntmps63
  go_wp2_with (go_at_call 83; refine (makeStrW_any l hv hl _).mono ?_; rintro e w' ⟨p, rfl, hp, hb⟩)
  go_ret
  exact ⟨p, rfl, hp, hb⟩

set_option maxRecDepth 100000 in
theorem getInt_any (i : Value) (g n : Nat) (hn : n ≤ 5000) (w : World) (hc : w.cell? ⟨g, 0, none⟩ = some (.float .f64 (intW n))) :
    Calls Try.prog 94 #[i, .iface 119 (.pointer (some ⟨g, 0, none⟩))] w fun e w' => e = .returned (.tuple #[.int .i64 n, .nilIface]) ∧ Below w.heap.size w w' := by
  have hv := val_intW (n : Int) (by omega)
  have hci : floatToIntVal .f64 (intW n) .i32 = some (n : Int) := toI32 hv (by omega) (by omega)
  have hcx : ∀ w, (Go.convert 28 21 (.float .f64 (intW n))).run Try.prog w = .ok (.int .i32 n) w := fun w => run_convert_float_int w _ _ _ _ _ _ (by kernel_rfl) (by kernel_rfl) hci
  have hcr : ∀ w n, (Go.convert 3 28 (.int .i64 n)).run Try.prog w = .ok (.float .f64 (intW n)) w := fun w n => by kernel_rfl
  have he : FloatKind.f64.format.order (intW n) (intW n) = some Ordering.eq := order_self_of_val hv
  have hn' : (n : Int) ≤ 5000 := by omega
  clear hci hv
  go_enter Try.func94, Try.ntmps94
  go_wp2_with (go_at_call 81; refine (getNum_any _ _ _).mono ?_; rintro e w' ⟨rfl, rfl⟩)
  go_ret2
  exact ⟨rfl, Below.refl _ _⟩

/-- A part of a row. -/
theorem row_part {w : World} {B b c : Nat} {l : List Nat} (h : RowV w B (.slice (some ⟨b, 0, none⟩) l.length c) (runes l)) (a n c' : Nat) (ha : a + n ≤ l.length) : RowV w B (.slice (some ⟨b, a, none⟩) ((l.drop a).take n).length c') (runes ((l.drop a).take n)) := by
  have hln : ((l.drop a).take n).length = n := by simp; omega
  refine ⟨_, c', by rw [runes_len], fun hn => ?_⟩
  rw [runes_len, hln] at hn
  obtain ⟨b', off, hA, hb, _⟩ := h.get (k := 0) (u := runeV (l[0]'(by omega))) (by rw [runes, List.getElem?_map, List.getElem?_eq_getElem (by omega)]; rfl)
  injection hA with hA
  injection hA with e1 e2 _
  subst e1 e2
  refine ⟨b, a, rfl, hb, fun j u hu => ?_⟩
  have hj := (List.getElem?_eq_some_iff.1 hu).1
  rw [runes_len, hln] at hj
  have hu' : (runes l)[a + j]? = some u := by
    rw [← hu]
    simp only [runes, List.map_take, List.map_drop]
    rw [List.getElem?_take_of_lt hj, List.getElem?_drop]
  obtain ⟨b'', off', hA', _, hcell⟩ := h.get hu'
  injection hA' with hA'
  injection hA' with e1 e2 _
  subst e1 e2
  rw [Nat.zero_add] at hcell
  exact hcell

set_option maxRecDepth 100000 in
set_option maxHeartbeats 1000000 in
theorem biSubstr_any (i : Value) (p : Value) (gf gl a n : Nat) (l : List Nat) (w : World) (hp : StrW w w.heap.size p l) (hv : ∀ n ∈ l, okR n) (hl : l.length ≤ 2000) (ha : a ≤ l.length) (hn : n ≤ 2000)
    (cf : w.cell? ⟨gf, 0, none⟩ = some (.float .f64 (intW a))) (cl : w.cell? ⟨gl, 0, none⟩ = some (.float .f64 (intW n))) :
    Calls Try.prog 70 #[i, .iface 159 p, .iface 119 (.pointer (some ⟨gf, 0, none⟩)), .iface 119 (.pointer (some ⟨gl, 0, none⟩))] w
      fun e w' => ∃ q, e = .returned (.tuple #[.iface 159 q, .nilIface]) ∧ StrW w' w'.heap.size q ((l.drop a).take (min n (l.length - a))) ∧ Below w.heap.size w w' := by
  obtain ⟨g, b, c, rfl, hg, hcl, hc, hr⟩ := hp
  have hva := val_intW (a : Int) (by omega)
  have hone : (0 : Int) < one := by have := one_pos; omega
  have hlt : (FloatKind.f64.format.order (intW a) 0 == some Ordering.lt) = false := order_nlt hva val_zero (by
    have := Int.mul_nonneg (show (0 : Int) ≤ (a : Int) by omega) (Int.le_of_lt hone)
    omega)
  have hci : floatToIntVal .f64 (intW a) .i64 = some (a : Int) := toI64 hva (by omega) (by omega)
  have hcx : ∀ w, (Go.convert 28 3 (.float .f64 (intW a))).run Try.prog w = .ok (.int .i64 a) w := fun w => run_convert_float_int w _ _ _ _ _ _ (by kernel_rfl) (by kernel_rfl) hci
  obtain ⟨m, hm⟩ : ∃ m, min n (l.length - a) = m := ⟨_, rfl⟩
  have hm1 : a + m ≤ l.length := by omega
  have HR := Lib.hid hr
  have hln : ((l.drop a).take m).length = m := by simp; omega
  have HMV := Lib.hid fun w => makeStrW_any ((l.drop a).take m) (fun x hx => hv x (List.mem_of_mem_drop (List.mem_of_mem_take hx))) (by omega) w
  rw [hm]
  have HM := Lib.hid hm
  have HLN := Lib.hid hln
  clear hci hva hm hr hln
  have hal : (a : Int) ≤ (l.length : Int) := by omega
  have hl' : (l.length : Int) ≤ 2000 := by omega
  have hn' : (n : Int) ≤ 2000 := by omega
  by_cases hac : a = c
  · obtain rfl : a = l.length := by omega
    obtain rfl : m = 0 := by have := HM.out; omega
    subst hac
    have hs : ∀ w ad c', (Go.convert 145 9 (.slice (some ad) 0 c')).run Try.prog w = .ok (.string (ofR [])) w := fun w ad c' =>
      conv_string [] w 0 (some ad) c' ⟨some ad, c', rfl, fun h => by simp [runes] at h⟩
    go_enter Try.func70, Try.ntmps70
    go_wp2_with (first
      | (go_at_call 84; refine (getStr_any _ _ _).mono ?_; rintro e w' ⟨rfl, rfl⟩)
      | (go_at_call 81; refine (getNum_any _ _ _).mono ?_; rintro e w' ⟨rfl, rfl⟩))
    refine (Mod1_any l.length (by omega) _).mono ?_
    rintro e w' ⟨r, rfl, hr0, rfl⟩
    have hre : FloatKind.f64.format.order r 0 = some Ordering.eq := by
      show Ieee.double.order _ _ = _
      rw [order_val hr0 val_zero]; rfl
    clear hr0
    go_wp2_with (go_at_call 81; refine (getNum_any _ _ _).mono ?_; rintro e w' ⟨rfl, rfl⟩)
    refine (getInt_any _ gl n (by omega) _ cl).mono ?_
    rintro e w1 ⟨rfl, hb1⟩
    have hc1 := (hb1.cell (p := ⟨g, 0, none⟩) hg).trans hc
    have cf1 := (hb1.cell (p := ⟨gf, 0, none⟩) (World.block_lt_of_cell? w _ cf)).trans cf
    go_wp2_with fail
    refine upon_method (136, .pointer (some ⟨g, 0, none⟩)) (by kernel_rfl) ?_
    go_wp2_with fail
    refine (getRunes_any g _ _ hc1).mono ?_
    rintro e w' ⟨rfl, rfl⟩
    by_cases hcut : n = 0
    · subst hcut
      go_wp2_with fail
      refine (makeStrW_any [] (by simp) (by simp) _).mono ?_
      rintro e w2 ⟨q, rfl, hq, hb2⟩
      go_wp2_with fail
      go_ret2
      exact ⟨q, rfl, hq, hb1.trans (hb2.mono hb1.size)⟩
    · have hcut' : (l.length : Int) < (l.length : Int) + (n : Int) := by omega
      go_wp2_with fail
      refine (makeStrW_any [] (by simp) (by simp) _).mono ?_
      rintro e w2 ⟨q, rfl, hq, hb2⟩
      go_wp2_with fail
      go_ret2
      exact ⟨q, rfl, hq, hb1.trans (hb2.mono hb1.size)⟩
  · go_enter Try.func70, Try.ntmps70
    go_wp2_with (first
      | (go_at_call 84; refine (getStr_any _ _ _).mono ?_; rintro e w' ⟨rfl, rfl⟩)
      | (go_at_call 81; refine (getNum_any _ _ _).mono ?_; rintro e w' ⟨rfl, rfl⟩))
    refine (Mod1_any a (by omega) _).mono ?_
    rintro e w' ⟨r, rfl, hr0, rfl⟩
    have hre : FloatKind.f64.format.order r 0 = some Ordering.eq := by
      show Ieee.double.order _ _ = _
      rw [order_val hr0 val_zero]; rfl
    clear hr0
    go_wp2_with (go_at_call 81; refine (getNum_any _ _ _).mono ?_; rintro e w' ⟨rfl, rfl⟩)
    refine (getInt_any _ gl n (by omega) _ cl).mono ?_
    rintro e w1 ⟨rfl, hb1⟩
    have hc1 := (hb1.cell (p := ⟨g, 0, none⟩) hg).trans hc
    have cf1 := (hb1.cell (p := ⟨gf, 0, none⟩) (World.block_lt_of_cell? w _ cf)).trans cf
    have hs : ∀ c', (Go.convert 145 9 (.slice (some ⟨b, a, none⟩) m c')).run Try.prog w1 = .ok (.string (ofR ((l.drop a).take m))) w1 := fun c' => by
      have := conv_string ((l.drop a).take m) w1 w.heap.size (some ⟨b, a, none⟩) c' (row_part (HR.out.below hb1 (Nat.le_refl _)) a m c' hm1)
      rwa [HLN.out] at this
    go_wp2_with fail
    refine upon_method (136, .pointer (some ⟨g, 0, none⟩)) (by kernel_rfl) ?_
    go_wp2_with fail
    refine (getRunes_any g _ _ hc1).mono ?_
    rintro e w' ⟨rfl, rfl⟩
    by_cases hcut : a + n ≤ l.length
    · have hmn : m = n := by have := HM.out; omega
      have hcut' : (a : Int) + (n : Int) ≤ (l.length : Int) := by omega
      subst hmn
      go_wp2_with fail
      refine (HMV.out _).mono ?_
      rintro e w2 ⟨q, rfl, hq, hb2⟩
      go_wp2_with fail
      go_ret2
      exact ⟨q, rfl, hq, hb1.trans (hb2.mono hb1.size)⟩
    · have hmn : m = l.length - a := by have := HM.out; omega
      have hcut' : (l.length : Int) < (a : Int) + (n : Int) := by omega
      subst hmn
      go_wp2_with fail
      refine (HMV.out _).mono ?_
      rintro e w2 ⟨q, rfl, hq, hb2⟩
      go_wp2_with fail
      go_ret2
      exact ⟨q, rfl, hq, hb1.trans (hb2.mono hb1.size)⟩
end Go.Proofs.Ytenibebomafdmaa
