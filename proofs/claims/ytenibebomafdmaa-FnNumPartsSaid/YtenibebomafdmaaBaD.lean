/- impl.NumBitAnd of every two words; laws.bits; the walk of laws.FnNumBitAnd. -/
import Derived.Test.YtenibebomafdmaaBaC
namespace Go.Proofs.Ytenibebomafdmaa
open Go.RowKit Val

def PartP (op : BinOp) (fx fy : World → Int) (w : World) (e : Ending) (w' : World) : Prop := ∃ w1 w2, e = .returned (.tuple #[.float .f64 (intW (bits op .i64 (fx w1) (fy w2))), .nilIface]) ∧ Below w.heap.size w w'
def PartErr (w : World) (e : Ending) (w' : World) : Prop := ∃ u, e = .returned (.tuple #[.float .f64 0, .iface 152 u]) ∧ Below w.heap.size w w'

set_option maxRecDepth 100000 in
set_option maxHeartbeats 1000000 in
theorem partAndOk_any (x y : Nat) (fx fy : World → Int) (dx dy : World → World) (w : World) (hx : Conv x fx dx) (hy : Conv y fy dy) :
    Calls Try.prog 34 #[.float .f64 x, .float .f64 y] w (PartP .and fx fy w) := by
  have HX := Lib.hid hx
  have HY := Lib.hid hy
  clear hx hy
  go_enter Try.func34, Try.ntmps34
  go_wp2_with (first
    | (go_at_call 56; refine (biAnd_any _).mono ?_; rintro e w' ⟨rfl, rfl⟩)
    | (go_at_call 57; refine (num_any _ _).mono ?_; rintro e w' ⟨rfl, rfl⟩)
    | (go_at_call 96; refine (liftAndAll_any _ _ _ _ _ x y fx fy dx dy _ HX.out HY.out (by simp [go_sem]) (by simp [go_sem]) (by simp [go_sem]) (by simp [go_sem])).mono ?_; rintro e w' ⟨w1, w2, w3, hb, hz, rfl, rfl⟩)
    | (go_at_call 55; refine (numOf_any _ (intW (bits .and .i64 (fx w1) (fy w2))) _ (by rw [World.cell?_alloc_at _ _ _ _ (by simp at hz; omega)]; rfl)).mono ?_; rintro e w' ⟨rfl, rfl⟩))
  go_ret2
  refine ⟨w1, w2, rfl, Below.alloc (Below.trans ?_ (hb.mono (by simp; omega))) (by simp at hz; omega) _⟩
  repeat (first | exact Below.refl _ _ | refine Below.alloc ?_ (by simp; try omega) _ | refine Below.drew ?_)

set_option maxRecDepth 100000 in
set_option maxHeartbeats 1000000 in
theorem partAndErr_any (x y : Nat) (w : World) (H : ∀ (g gx gy : Nat) (p q : Value) (w : World), w.cell? ⟨gx, 0, none⟩ = some (.float .f64 x) → w.cell? ⟨gy, 0, none⟩ = some (.float .f64 y) → w.cell? ⟨g, 7, none⟩ = some (.slice none 0 0) → w.cell? ⟨g, 5, none⟩ = some (.pointer none) →
      Calls Try.prog 96 #[.pointer (some ⟨g, 0, none⟩), .iface 119 (.pointer (some ⟨gx, 0, none⟩)), .iface 119 (.pointer (some ⟨gy, 0, none⟩)), p, q] w (LiftErr w)) :
    Calls Try.prog 34 #[.float .f64 x, .float .f64 y] w (PartErr w) := by
  have HH := Lib.hid H
  clear H
  go_enter Try.func34, Try.ntmps34
  go_wp2_with (first
    | (go_at_call 56; refine (biAnd_any _).mono ?_; rintro e w' ⟨rfl, rfl⟩)
    | (go_at_call 57; refine (num_any _ _).mono ?_; rintro e w' ⟨rfl, rfl⟩)
    | (go_at_call 96; refine (HH.out _ _ _ _ _ _ (by simp [go_sem]) (by simp [go_sem]) (by simp [go_sem]) (by simp [go_sem])).mono ?_; rintro e w' ⟨u, rfl, hb⟩)
    | (go_at_call 55; refine (numOfErr_any _ _ _ _).mono ?_; rintro e w' ⟨rfl, rfl⟩))
  go_ret2
  refine ⟨u, rfl, Below.trans ?_ (hb.mono (by simp; omega))⟩
  repeat (first | exact Below.refl _ _ | refine Below.alloc ?_ (by simp; try omega) _ | refine Below.drew ?_)

def AndP (x y : Nat) (w : World) (e : Ending) (w' : World) : Prop := ∃ v ok, e = .returned (.tuple #[.float .f64 v, .bool ok]) ∧ (∀ a b, InR x a → InR y b → ok = true ∧ v = intW (bits .and .i64 a b)) ∧ Below w.heap.size w w'

theorem numAndOk_any (x y : Nat) (fx fy : World → Int) (dx dy : World → World) (w : World) (hx : Conv x fx dx) (hy : Conv y fy dy) (hq : ∀ a b, InR x a → InR y b → ∀ w1 w2, fx w1 = a ∧ fy w2 = b) :
    Calls Try.prog 13 #[.float .f64 x, .float .f64 y] w (AndP x y w) := by
  have HP := Lib.hid fun w => partAndOk_any x y fx fy dx dy w hx hy
  have HQ := Lib.hid hq
  clear hx hy hq
  go_enter Try.func13, Try.ntmps13
  go_wp2_with (first
    | (go_at_call 34; refine (HP.out _).mono ?_; rintro e w' ⟨w1, w2, rfl, hb⟩)
    | (go_at_call 33; refine (number_any _ _).mono ?_; rintro e w' ⟨rfl, rfl⟩))
  go_ret2
  exact ⟨_, _, rfl, (fun a b h1 h2 => ⟨rfl, by rw [(HQ.out a b h1 h2 w1 w2).1, (HQ.out a b h1 h2 w1 w2).2]⟩), hb⟩

theorem numAndErr_any (x y : Nat) (w : World) (H : ∀ w, Calls Try.prog 34 #[.float .f64 x, .float .f64 y] w (PartErr w)) (hq : ∀ a b, InR x a → InR y b → False) :
    Calls Try.prog 13 #[.float .f64 x, .float .f64 y] w (AndP x y w) := by
  have HP := Lib.hid H
  have HQ := Lib.hid hq
  clear H hq
  go_enter Try.func13, Try.ntmps13
  go_wp2_with (first
    | (go_at_call 34; refine (HP.out _).mono ?_; rintro e w' ⟨u, rfl, hb⟩)
    | (go_at_call 33; refine (numberErr_any _ _ _ _).mono ?_; rintro e w' ⟨rfl, rfl⟩))
  go_ret2
  exact ⟨_, _, rfl, (fun a b h1 h2 => (HQ.out a b h1 h2).elim), hb⟩

theorem inR_one {x : Nat} {a b : Int} (h1 : InR x a) (h2 : InR x b) : a = b := by
  have := h1.to.symm.trans h2.to
  injection this
theorem nan_not_inR {x : Nat} {s : Bool} {t : Nat} (h : Ieee.double.read x = .nan s t) {a : Int} (h1 : InR x a) : False := by
  have := h1.to
  unfold floatToIntVal at this
  rw [show FloatKind.f64.decode x = Ieee.double.read x from rfl, h] at this
  cases this

theorem numAnd_any (x y : Nat) (w : World) : Calls Try.prog 13 #[.float .f64 x, .float .f64 y] w (AndP x y w) := by
  have lowx : ∀ {z : Nat} {a : Int}, FloatKind.f64.format.order z 14069245235905429503 = some Ordering.lt → InR z a → False := fun h1 h2 => h2.lo h1
  have highx : ∀ {z : Nat} {a : Int}, (FloatKind.f64.format.order z 4845873199050653695 == some Ordering.gt) = true → InR z a → False := fun h1 h2 => by have := h2.hi; rw [h1] at this; cases this
  cases range_all x with
  | low h => exact numAndErr_any x y w (fun w => partAndErr_any x y w (fun g gx gy p q w c1 c2 c3 c4 => liftErr1 g gx gy p q x y w h c1 c2 c3 c4)) (fun a b h1 _ => lowx h h1)
  | high h0 h => exact numAndErr_any x y w (fun w => partAndErr_any x y w (fun g gx gy p q w c1 c2 c3 c4 => liftErr2 g gx gy p q x y w h0 h c1 c2 c3 c4)) (fun a b h1 _ => highx h h1)
  | num a ha =>
    cases range_all y with
    | low h => exact numAndErr_any x y w (fun w => partAndErr_any x y w (fun g gx gy p q w c1 c2 c3 c4 => liftErr3 g gx gy p q x y w ha.lo ha.hi h c1 c2 c3 c4)) (fun a b _ h2 => lowx h h2)
    | high h0 h => exact numAndErr_any x y w (fun w => partAndErr_any x y w (fun g gx gy p q w c1 c2 c3 c4 => liftErr4 g gx gy p q x y w ha.lo ha.hi h0 h c1 c2 c3 c4)) (fun a b _ h2 => highx h h2)
    | num b hb => exact numAndOk_any x y _ _ _ _ w (conv_inR ha) (conv_inR hb) (fun a' b' h1 h2 _ _ => ⟨inR_one ha h1, inR_one hb h2⟩)
    | nan h0 h1 s t h =>
      obtain ⟨f, hf⟩ := conv_of_nan h0 h1 h
      exact numAndOk_any x y _ _ _ _ w (conv_inR ha) hf (fun a' b' _ h2 _ _ => (nan_not_inR h h2).elim)
  | nan h0 h1 s t hn =>
    obtain ⟨f, hf⟩ := conv_of_nan h0 h1 hn
    cases range_all y with
    | low h => exact numAndErr_any x y w (fun w => partAndErr_any x y w (fun g gx gy p q w c1 c2 c3 c4 => liftErr3 g gx gy p q x y w h0 h1 h c1 c2 c3 c4)) (fun a b _ h2 => lowx h h2)
    | high g0 h => exact numAndErr_any x y w (fun w => partAndErr_any x y w (fun g gx gy p q w c1 c2 c3 c4 => liftErr4 g gx gy p q x y w h0 h1 g0 h c1 c2 c3 c4)) (fun a b _ h2 => highx h h2)
    | num b hb => exact numAndOk_any x y _ _ _ _ w hf (conv_inR hb) (fun a' b' h1 _ _ _ => (nan_not_inR hn h1).elim)
    | nan g0 g1 s' t' h =>
      obtain ⟨f', hf'⟩ := conv_of_nan g0 g1 h
      exact numAndOk_any x y _ _ _ _ w hf hf' (fun a' b' h1 _ _ _ => (nan_not_inR hn h1).elim)
end Go.Proofs.Ytenibebomafdmaa
