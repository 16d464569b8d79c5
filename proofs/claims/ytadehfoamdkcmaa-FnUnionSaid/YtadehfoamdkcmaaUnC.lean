/- The contract of addBindings: two maps of names put together, whatever the order in which they are ranged over. -/
import Derived.Test.YtadehfoamdkcmaaUnB
namespace Go.Proofs.Ytadehfoamdkcmaa
open Go.RowKit
set_option linter.unusedSimpArgs false

def orO (a b : Option Nat) : Option Nat := match a with | some g => some g | none => b
def AdP (Da Db : DataW Unit) (n : Nat) (w : World) (e : Ending) (w' : World) : Prop := ∃ b D, e = .returned (.map (some b)) ∧ w.heap.size ≤ b ∧ w'.ownsMap Try.prog 40 elT b n D ∧ (∀ x, bind D x = orO (bind Db x) (bind Da x)) ∧ Below w.heap.size w w'

/-- Under way: what the new map holds: of D0 what has come, ahead of it what was there. -/
def AdL (D0 : DataW Unit) (f : Nm → Option Nat) (ba r n0 b n lim : Nat) (w wr : World) : Prop := ∃ left cnt D m, wr.ranges Try.prog 40 elT ba r n0 D0 left cnt ∧ wr.ownsMap Try.prog 40 elT b m D ∧ m + cnt ≤ lim ∧
  (∀ x, bind D x = if left (.string x) = true then f x else orO (bind D0 x) (f x)) ∧ Below n w wr

theorem adL_start {D0 D : DataW Unit} {f : Nm → Option Nat} {ba r n0 b n lim m : Nat} {w wr : World} (hr : wr.ranges Try.prog 40 elT ba r n0 D0 (Maps.has D0) (Maps.size D0)) (ho : wr.ownsMap Try.prog 40 elT b m D)
    (hl : m + Maps.size D0 ≤ lim) (hf : ∀ x, bind D x = f x) (hb : Below n w wr) : AdL D0 f ba r n0 b n lim w wr := by
  refine ⟨_, _, D, m, hr, ho, hl, fun x => ?_, hb⟩
  rw [hf, bind_has]
  cases h : bind D0 x <;> simp [orO]
theorem adL_step {D0 : DataW Unit} {f : Nm → Option Nat} {left : Lit → Bool} {D : DataW Unit} {x : Nm} {g : Nat} (hm : Maps.IsMap D) (hat : ∀ zd, D0.atKey (.string x) zd = litN g)
    (h : ∀ x, bind D x = if left (.string x) = true then f x else orO (bind D0 x) (f x)) (y : Nm) :
    bind (D.put (.string x) (litN g)) y = if (left (.string y) && !(Lit.string y).sameKey (.string x)) = true then f y else orO (bind D0 y) (f y) := by
  rw [bind_put hm, h]
  by_cases e : x = y
  · subst e
    rw [WideAt.sameKey_self (key_str x), bind_at hat]
    simp [orO]
  · have e2 : Lit.string y ≠ Lit.string x := fun h => by injection h with h; exact e h.symm
    rw [Maps.sameKey_ne e2]
    simp [e]
theorem el40_inv : ∀ v y, elT v = some y → ∃ c, v = ptr c := fun _ y h => elT_inv (z := y) h
theorem key40_inv : ∀ key kl, keyOf Try.prog 40 key = some kl → ∃ x, key = encStr x := fun key kl hk => by obtain ⟨x, hx, _⟩ := Maps.keyOf_str Try.underlying40 hk; exact ⟨x, hx⟩

theorem adL_end {D0 : DataW Unit} {f : Nm → Option Nat} {left : Lit → Bool} {D : DataW Unit} (h : ∀ x, bind D x = if left (.string x) = true then f x else orO (bind D0 x) (f x)) (hl : ∀ kl, left kl = false) (x : Nm) : bind D x = orO (bind D0 x) (f x) := by
  rw [h, hl]; simp
theorem orO_none (a : Option Nat) : orO a none = a := by cases a <;> rfl

set_option maxRecDepth 100000 in
set_option maxHeartbeats 2000000 in
theorem add_any (ba bb na nb : Nat) (Da Db : DataW Unit) (w : World) (ha : w.ownsMap Try.prog 40 elT ba na Da) (hb : w.ownsMap Try.prog 40 elT bb nb Db) (hn : na + nb ≤ 1000) :
    Calls Try.prog 12 #[.map (some ba), .map (some bb)] w (AdP Da Db (na + nb) w) := by
  have hm := mkmap37'
  have HA := Lib.hid ha
  have HB := Lib.hid hb
  have lA := ha.lt
  have lB := hb.lt
  have sA := own_size ha
  have sB := own_size hb
  clear ha hb
  go_enter Try.func12, Try.ntmps12
  go_wp2_with (first
    | (at_len; refine wpList_len_own _ rfl _ 37 rfl 40 41 Try.underlying37 _ ba na _ rfl HA.out ?_)
    | (at_range; refine wpList_range_own _ rfl _ 37 rfl 40 41 keyed40 Try.underlying37 _ ba na Da rfl (HA.out.alloc _) ?_; intro w0 hrg0 hg0 hs0))
  go_frame
  simp only [World.size_alloc] at hrg0 ⊢
  have HM := Lib.hid ((World.ownsMap_made w Try.prog 40 elT).kept hg0 (by simp))
  have hb0 : Below w.heap.size w w0 := ((Below.refl _ _).alloc (Nat.le_refl _) _).grown hg0 (by simp) (fun j hj => by cases hj)
  have HS := Lib.hid (show AdL Da (fun _ => none) ba (w.heap.size + 1) na w.heap.size w.heap.size na w w0 from adL_start hrg0 HM.out (by simpa using sA) (fun x => bind_empty x) hb0)
  clear hrg0 hg0 hs0 hb0
  go_loopw [6] (fun _ wr => Hid (AdL Da (fun _ => none) ba (w.heap.size + 1) na w.heap.size w.heap.size na w wr)) (fun _ wr => wr.rangeLeft ba (w.heap.size + 1))
  case atStart => exact HS
  case round =>
    have HR := hrel
    obtain ⟨left, cnt, D, m, hrg, hown, hlim, hf, hbl⟩ := hrel.out
    have HF := Lib.hid hf
    have HBL := Lib.hid hbl
    have hsz := hbl.size
    clear hf hbl hrel
    go_wp2_with (at_next; refine wpList_next_ranges _ rfl _ rfl 40 keyed40 elT encStr ptr key40_inv el40_inv ba _ na _ _ _ rfl hrg ?_ ?_)
    · intro hc0 hl0
      have HBW := Lib.hid (own_below' HB.out HBL.out lB)
      have HF2 := Lib.hid (fun x => (adL_end HF.out hl0 x).trans (orO_none _))
      have HO := Lib.hid hown
      clear HR hrg hl0 hown
      obtain ⟨W1, rfl⟩ : ∃ W1, W1 = wr := ⟨_, rfl⟩
      go_wp2_with (at_range; refine wpList_range_own _ rfl _ 37 rfl 40 41 keyed40 Try.underlying37 _ bb nb Db rfl HBW.out ?_; intro w1 hrg1 hg1 hs1)
      go_frame
      have HS := Lib.hid (show AdL Db (bind Da) bb W1.heap.size nb w.heap.size w.heap.size (na + nb) w w1 from adL_start hrg1 (HO.out.kept hg1 (by simp)) (by omega) HF2.out (HBL.out.grown hg1 hsz (fun j hj => by cases hj)))
      have hne : w.heap.size < W1.heap.size := HO.out.lt
      clear hrg1 hg1 hs1
      go_loopw [8] (fun _ wr => Hid (AdL Db (bind Da) bb W1.heap.size nb w.heap.size w.heap.size (na + nb) w wr)) (fun _ wr => wr.rangeLeft bb W1.heap.size)
      case atStart => exact HS
      case round =>
        obtain ⟨left, cnt, D, m, hrg, hown, hlim, hf, hbl⟩ := hrel.out
        have HF := Lib.hid hf
        have HBL := Lib.hid hbl
        have hsz := hbl.size
        clear hf hbl hrel
        go_wp2_with (at_next; refine wpList_next_ranges _ rfl _ rfl 40 keyed40 elT encStr ptr key40_inv el40_inv bb _ nb _ _ _ rfl hrg ?_ ?_)
        · intro hc0 hl0
          go_wp2_with fail
          go_ret
          exact ⟨_, D, rfl, Nat.le_refl _, hown.mono (by omega), adL_end HF.out hl0, HBL.out⟩
        · intro x c kl yd yp w2 cnt2 hkey hlk hv hat hrg2 hlt hg2 hs2 hen
          obtain ⟨x', ex, rfl, _⟩ := Maps.keyOf_str Try.underlying40 hkey
          obtain rfl : x = x' := encStr_inj ex
          rw [elT_mk] at hv
          injection hv with hv
          injection hv with h1 h2
          subst h1 h2
          have hown2 := hown.kept hg2 (by simp; omega)
          have HX := Lib.hid hs2
          have HL := Lib.hid hrg.left_eq
          have hlim2 : m < maxLen := by unfold maxLen; omega
          clear hs2 ex hrg
          go_wp2_with (at_mapUpdate; refine wpList_mapUpdate_own _ rfl _ _ _ 37 rfl 40 41 keyed40 Try.underlying37 _ w.heap.size m D rfl hown2 hlim2 _ _ (.string x) rfl rfl hkey (litN c) [] (elT_mk c) ?_; intro w3 hown3 hg3; go_frame)
          have hrg3 := hrg2.kept hg3 (by simp; omega) (by simp; omega)
          have hS : AdL Db (bind Da) bb W1.heap.size nb w.heap.size w.heap.size (na + nb) w w3 :=
            ⟨_, _, _, _, hrg3, hown3, by omega, fun y => adL_step (own_isMap hown2) hat HF.out y, (HBL.out.grown hg2 hsz (fun j hj => by cases hj; omega)).grown hg3 (by have := HX.out; omega) (fun j hj => by cases hj; omega)⟩
          have HS3 := Lib.hid hS
          have HM := Lib.hid hrg3.left_eq
          clear hS hrg3 hown3 hg3 hown2 hrg2 hg2
          go_roundw
          case rel => exact HS3
          case measure => rw [HM.out, HL.out]; exact hlt
    · intro x c kl yd yp w2 cnt2 hkey hlk hv hat hrg2 hlt hg2 hs2 hen
      obtain ⟨x', ex, rfl, _⟩ := Maps.keyOf_str Try.underlying40 hkey
      obtain rfl : x = x' := encStr_inj ex
      rw [elT_mk] at hv
      injection hv with hv
      injection hv with h1 h2
      subst h1 h2
      have hown2 := hown.kept hg2 (by simp)
      have HX := Lib.hid hs2
      have HL := Lib.hid hrg.left_eq
      have hlim2 : m < maxLen := by unfold maxLen; omega
      clear hs2 ex hrg
      go_wp2_with (at_mapUpdate; refine wpList_mapUpdate_own _ rfl _ _ _ 37 rfl 40 41 keyed40 Try.underlying37 _ w.heap.size m D rfl hown2 hlim2 _ _ (.string x) rfl rfl hkey (litN c) [] (elT_mk c) ?_; intro w3 hown3 hg3; go_frame)
      have hrg3 := hrg2.kept hg3 (by simp; omega) (by simp)
      have hS : AdL Da (fun _ => none) ba (w.heap.size + 1) na w.heap.size w.heap.size na w w3 :=
        ⟨_, _, _, _, hrg3, hown3, by omega, fun y => adL_step (own_isMap hown2) hat HF.out y, (HBL.out.grown hg2 hsz (fun j hj => by cases hj; omega)).grown hg3 (by have := HX.out; omega) (fun j hj => by cases hj; omega)⟩
      have HS3 := Lib.hid hS
      have HM := Lib.hid hrg3.left_eq
      clear hS hrg3 hown3 hg3 hown2 hrg2 hg2
      go_roundw
      case rel => exact HS3
      case measure => rw [HM.out, HL.out]; exact hlt
end Go.Proofs.Ytadehfoamdkcmaa
