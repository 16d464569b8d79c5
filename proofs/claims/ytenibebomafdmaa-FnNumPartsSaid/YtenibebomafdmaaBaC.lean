/- int64 of a word, also of a NaN (drawn from the tape); the closure of & over every two words. -/
import Derived.Test.YtenibebomafdmaaBaB
namespace Go.Proofs.Ytenibebomafdmaa
open Go.RowKit Val

theorem conv_nan (x : Nat) (s : Bool) (t : Nat) (h : Ieee.double.read x = .nan s t) (w : World) : ∃ n, (Go.convert 28 2 (.float .f64 x)).run Try.prog w = .ok (.int .i64 n) w.drew := by
  have hs : Try.prog.underlying 28 = some (.float .f64) := by kernel_rfl
  have hd : Try.prog.underlying 2 = some (.int .i64) := by kernel_rfl
  have he : (FloatKind.f64.decode x).toInt .zero = none := by
    rw [show FloatKind.f64.decode x = Ieee.double.read x from rfl, h]; rfl
  simp [Go.convert, run_underlying hs, run_underlying hd, Conv.floatToInt, he]
  rw [if_neg (by rw [show (Question.floatToInt FloatKind.f64 x IntKind.i64).forced = false from rfl]; decide)]
  exact ⟨_, rfl⟩

/-- What int64 makes of a word, in whatever world. -/
structure Conv (x : Nat) (f : World → Int) (d : World → World) : Prop where
  lo : ¬ FloatKind.f64.format.order x 14069245235905429503 = some Ordering.lt
  hi : (FloatKind.f64.format.order x 4845873199050653695 == some Ordering.gt) = false
  run : ∀ w, (Go.convert 28 2 (.float .f64 x)).run Try.prog w = .ok (.int .i64 (f w)) (d w)
  cell : ∀ w a, (d w).cell? a = w.cell? a
  size : ∀ w, (d w).heap.size = w.heap.size
  below : ∀ B w w', Below B w w' → Below B w (d w')

theorem conv_inR {x : Nat} {a : Int} (h : InR x a) : Conv x (fun _ => a) (fun w => w) :=
  ⟨h.lo, h.hi, fun w => run_convert_float_int w _ _ _ _ _ _ (by kernel_rfl) (by kernel_rfl) h.to, fun _ _ => rfl, fun _ => rfl, fun _ _ _ h => h⟩
theorem conv_of_nan {x : Nat} {s : Bool} {t : Nat} (h0 : ¬ FloatKind.f64.format.order x 14069245235905429503 = some Ordering.lt) (h1 : (FloatKind.f64.format.order x 4845873199050653695 == some Ordering.gt) = false) (h : Ieee.double.read x = .nan s t) :
    ∃ f, Conv x f World.drew := by
  refine ⟨fun w => (conv_nan x s t h w).choose, h0, h1, fun w => (conv_nan x s t h w).choose_spec, fun _ _ => rfl, fun _ => rfl, fun _ _ _ h => h.drew⟩

/-- What liftBitwise's closure leaves of two words in range. -/
def LiftP (op : BinOp) (fx fy : World → Int) (w : World) (e : Ending) (w' : World) : Prop :=
  ∃ w1 w2 w3, Below w.heap.size w w3 ∧ w3.heap.size = w.heap.size ∧ e = .returned (.tuple #[.iface 119 (.pointer (some ⟨w.heap.size, 0, none⟩)), .nilIface]) ∧
    w' = w3.alloc (.cells #[.float .f64 (intW (bits op .i64 (fx w1) (fy w2)))] 118)

set_option maxRecDepth 100000 in
set_option maxHeartbeats 4000000 in
theorem liftAndAll_any (i : Value) (gx gy p q x y : Nat) (fx fy : World → Int) (dx dy : World → World) (w : World) (hx : Conv x fx dx) (hy : Conv y fy dy)
    (cx : w.cell? ⟨gx, 0, none⟩ = some (.float .f64 x)) (cy : w.cell? ⟨gy, 0, none⟩ = some (.float .f64 y)) (cp : w.cell? ⟨p, 0, none⟩ = some (.bool false)) (cq : w.cell? ⟨q, 0, none⟩ = some (.func (.func 75) #[] #[])) :
    Calls Try.prog 96 #[i, .iface 119 (.pointer (some ⟨gx, 0, none⟩)), .iface 119 (.pointer (some ⟨gy, 0, none⟩)), .pointer (some ⟨p, 0, none⟩), .pointer (some ⟨q, 0, none⟩)] w (LiftP .and fx fy w) := by
  obtain ⟨x1, x2, hcx, hkx, hzx, hbx⟩ := hx
  obtain ⟨y1, y2, hcy, hky, hzy, hby⟩ := hy
  have HB := Lib.hid (And.intro hbx hby)
  clear hbx hby
  have hcr : ∀ w n, (Go.convert 2 28 (.int .i64 n)).run Try.prog w = .ok (.float .f64 (intW n)) w := fun w n => by kernel_rfl
  go_enter Try.func96, Try.ntmps96
  go_wp2_with (first
    | (go_at_call 81; refine (getNum_any _ _ _).mono ?_; rintro e w' ⟨rfl, rfl⟩))
  go_region_held (fun w' => w'.cell? ⟨gx, 0, none⟩ = some (.float .f64 x) ∧ w'.cell? ⟨gy, 0, none⟩ = some (.float .f64 y) ∧ w'.cell? ⟨q, 0, none⟩ = some (.func (.func 75) #[] #[])) (go_keep)
    (first | (go_at_call 75; refine (fAnd_any _ _ _).mono ?_; rintro e w' ⟨rfl, rfl⟩) | (go_at_call 89; refine (dcheck_any _ _ _ (intW_lt _) (bits_fin _ _ _).choose_spec _).mono ?_; rintro e w' ⟨rfl, rfl⟩))
  all_goals
    go_wp2
    go_ret2
    first
      | exact ⟨w.drew, dx w.drew, dy (dx w.drew), HB.out.2 _ _ _ (HB.out.1 _ _ _ (Below.refl _ _).drew), by rw [hzy, hzx]; rfl, rfl, rfl⟩
      | exact ⟨dy w.drew, w.drew, dx (dy w.drew), HB.out.1 _ _ _ (HB.out.2 _ _ _ (Below.refl _ _).drew), by rw [hzx, hzy]; rfl, rfl, rfl⟩

def LiftErr (w : World) (e : Ending) (w' : World) : Prop := ∃ u, e = .returned (.tuple #[.nilIface, .iface 152 u]) ∧ Below w.heap.size w w'

set_option maxRecDepth 100000 in
theorem liftErr1 (g gx gy : Nat) (p q : Value) (x y : Nat) (w : World) (hx : FloatKind.f64.format.order x 14069245235905429503 = some Ordering.lt)
    (cx : w.cell? ⟨gx, 0, none⟩ = some (.float .f64 x)) (_ : w.cell? ⟨gy, 0, none⟩ = some (.float .f64 y)) (ci : w.cell? ⟨g, 7, none⟩ = some (.slice none 0 0)) (cl : w.cell? ⟨g, 5, none⟩ = some (.pointer none)) :
    Calls Try.prog 96 #[.pointer (some ⟨g, 0, none⟩), .iface 119 (.pointer (some ⟨gx, 0, none⟩)), .iface 119 (.pointer (some ⟨gy, 0, none⟩)), p, q] w (LiftErr w) := by
  go_enter Try.func96, Try.ntmps96
  go_wp2_with (first
    | (go_at_call 81; refine (getNum_any _ _ _).mono ?_; rintro e w' ⟨rfl, rfl⟩)
    | (go_at_call 92; refine (stack_any g _ ci cl).mono ?_; rintro e w' ⟨rfl, rfl⟩)
    | (go_at_call 91; refine (mkErr_any _ _).mono ?_; rintro e w' ⟨rfl, hb⟩))
  go_ret2
  exact ⟨_, rfl, hb⟩

set_option maxRecDepth 100000 in
theorem liftErr2 (g gx gy : Nat) (p q : Value) (x y : Nat) (w : World) (hx : ¬ FloatKind.f64.format.order x 14069245235905429503 = some Ordering.lt) (hx2 : (FloatKind.f64.format.order x 4845873199050653695 == some Ordering.gt) = true)
    (cx : w.cell? ⟨gx, 0, none⟩ = some (.float .f64 x)) (_ : w.cell? ⟨gy, 0, none⟩ = some (.float .f64 y)) (ci : w.cell? ⟨g, 7, none⟩ = some (.slice none 0 0)) (cl : w.cell? ⟨g, 5, none⟩ = some (.pointer none)) :
    Calls Try.prog 96 #[.pointer (some ⟨g, 0, none⟩), .iface 119 (.pointer (some ⟨gx, 0, none⟩)), .iface 119 (.pointer (some ⟨gy, 0, none⟩)), p, q] w (LiftErr w) := by
  go_enter Try.func96, Try.ntmps96
  go_wp2_with (first
    | (go_at_call 81; refine (getNum_any _ _ _).mono ?_; rintro e w' ⟨rfl, rfl⟩)
    | (go_at_call 92; refine (stack_any g _ ci cl).mono ?_; rintro e w' ⟨rfl, rfl⟩)
    | (go_at_call 91; refine (mkErr_any _ _).mono ?_; rintro e w' ⟨rfl, hb⟩))
  go_ret2
  exact ⟨_, rfl, hb⟩

set_option maxRecDepth 100000 in
theorem liftErr3 (g gx gy : Nat) (p q : Value) (x y : Nat) (w : World) (hx : ¬ FloatKind.f64.format.order x 14069245235905429503 = some Ordering.lt) (hx2 : (FloatKind.f64.format.order x 4845873199050653695 == some Ordering.gt) = false) (hy : FloatKind.f64.format.order y 14069245235905429503 = some Ordering.lt)
    (cx : w.cell? ⟨gx, 0, none⟩ = some (.float .f64 x)) (cy : w.cell? ⟨gy, 0, none⟩ = some (.float .f64 y)) (ci : w.cell? ⟨g, 7, none⟩ = some (.slice none 0 0)) (cl : w.cell? ⟨g, 5, none⟩ = some (.pointer none)) :
    Calls Try.prog 96 #[.pointer (some ⟨g, 0, none⟩), .iface 119 (.pointer (some ⟨gx, 0, none⟩)), .iface 119 (.pointer (some ⟨gy, 0, none⟩)), p, q] w (LiftErr w) := by
  go_enter Try.func96, Try.ntmps96
  go_wp2_with (first
    | (go_at_call 81; refine (getNum_any _ _ _).mono ?_; rintro e w' ⟨rfl, rfl⟩)
    | (go_at_call 92; refine (stack_any g _ ci cl).mono ?_; rintro e w' ⟨rfl, rfl⟩)
    | (go_at_call 91; refine (mkErr_any _ _).mono ?_; rintro e w' ⟨rfl, hb⟩))
  go_ret2
  exact ⟨_, rfl, hb⟩

set_option maxRecDepth 100000 in
theorem liftErr4 (g gx gy : Nat) (p q : Value) (x y : Nat) (w : World) (hx : ¬ FloatKind.f64.format.order x 14069245235905429503 = some Ordering.lt) (hx2 : (FloatKind.f64.format.order x 4845873199050653695 == some Ordering.gt) = false) (hy : ¬ FloatKind.f64.format.order y 14069245235905429503 = some Ordering.lt) (hy2 : (FloatKind.f64.format.order y 4845873199050653695 == some Ordering.gt) = true)
    (cx : w.cell? ⟨gx, 0, none⟩ = some (.float .f64 x)) (cy : w.cell? ⟨gy, 0, none⟩ = some (.float .f64 y)) (ci : w.cell? ⟨g, 7, none⟩ = some (.slice none 0 0)) (cl : w.cell? ⟨g, 5, none⟩ = some (.pointer none)) :
    Calls Try.prog 96 #[.pointer (some ⟨g, 0, none⟩), .iface 119 (.pointer (some ⟨gx, 0, none⟩)), .iface 119 (.pointer (some ⟨gy, 0, none⟩)), p, q] w (LiftErr w) := by
  go_enter Try.func96, Try.ntmps96
  go_wp2_with (first
    | (go_at_call 81; refine (getNum_any _ _ _).mono ?_; rintro e w' ⟨rfl, rfl⟩)
    | (go_at_call 92; refine (stack_any g _ ci cl).mono ?_; rintro e w' ⟨rfl, rfl⟩)
    | (go_at_call 91; refine (mkErr_any _ _).mono ?_; rintro e w' ⟨rfl, hb⟩))
  go_ret2
  exact ⟨_, rfl, hb⟩
end Go.Proofs.Ytenibebomafdmaa
