/- The errors' road: getCurrentStackTrace of a new interpreter, makeRuntimeError, numOf and number of an error. -/
import Derived.Test.YtenibebomafdmaaBaA
namespace Go.Proofs.Ytenibebomafdmaa
open Go.RowKit Val

theorem stack_any (g : Nat) (w : World) (h1 : w.cell? ⟨g, 7, none⟩ = some (.slice none 0 0)) (h2 : w.cell? ⟨g, 5, none⟩ = some (.pointer none)) :
    Calls Try.prog 92 #[.pointer (some ⟨g, 0, none⟩)] w fun e w' => e = .returned (.slice none 0 0) ∧ w = w' := by
  go_enter Try.func92, Try.ntmps92
  go_wp2
  refine wp_loop_rounds 1 ?_
  rw [rounds_succ]
  go_wp2
  go_ret
  exact ⟨rfl, rfl⟩

theorem mkErr_any (s : ByteArray) (w : World) :
    Calls Try.prog 91 #[.string s, .slice none 0 0] w fun e w' => e = .returned (.agg #[.string s, .slice none 0 0]) ∧ Below w.heap.size w w' := by
  go_enter Try.func91, Try.ntmps91
  go_wp2
  refine bodyPost_ret (v := .agg #[.string s, .slice none 0 0]) (by simp [results, Try.results91, go_sem]) rfl ?_
  exact ⟨rfl, (Below.refl _ _).alloc (Nat.le_refl _) _⟩

theorem numOfErr_any (v : Value) (t : TypeId) (u : Value) (w : World) :
    Calls Try.prog 55 #[v, .iface t u] w fun e w' => e = .returned (.tuple #[.float .f64 0, .iface t u]) ∧ w = w' := by
  go_enter Try.func55, Try.ntmps55
  go_wp2
  go_ret2
  exact ⟨rfl, rfl⟩

theorem numberErr_any (v : Value) (t : TypeId) (u : Value) (w : World) :
    Calls Try.prog 33 #[v, .iface t u] w fun e w' => e = .returned (.tuple #[.float .f64 0, .bool false]) ∧ w = w' := by
  go_enter Try.func33, Try.ntmps33
  go_wp2
  go_ret2
  exact ⟨rfl, rfl⟩
end Go.Proofs.Ytenibebomafdmaa
