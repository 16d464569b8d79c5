/- ast.BuildSource: the lines of a text of code points, each with a line feed. -/
import Derived.Test.YtlbgmcpjdfoalaaDoorLrB
import Derived.Test.YtlbgmcpjdfoalaaDoorSh
import Derived.Lib.BufferKept
import Derived.Lib.RuneLoops
import Derived.BigCall
import Derived.Laws.RangeAny
namespace Go.Proofs.YtlbgmcpjdfoalaaDoor
open Go.RowKit Rune

def ba (l : List UInt8) : ByteArray := ⟨l.toArray⟩
/-- The lines of bytes, each with its line feed; a line begun stands ahead. -/
def rowsOf (cur : List UInt8) : List UInt8 → List (List UInt8)
  | [] => [cur ++ [10]]
  | b :: t => if b = 10 then (cur ++ [10]) :: rowsOf [] t else rowsOf (cur ++ [b]) t
theorem rowsOf_no10 : ∀ (bs t cur : List UInt8), (10 : UInt8) ∉ bs → rowsOf cur (bs ++ t) = rowsOf (cur ++ bs) t
  | [], t, cur, _ => by simp
  | b :: bs, t, cur, h => by
    have hb : b ≠ 10 := fun e => h (by rw [e]; exact List.mem_cons_self ..)
    have ht : (10 : UInt8) ∉ bs := fun e => h (List.mem_cons_of_mem _ e)
    rw [List.cons_append, rowsOf, if_neg hb, rowsOf_no10 bs t (cur ++ [b]) ht]
    simp
theorem rowsOf_10 (t cur : List UInt8) : rowsOf cur ([10] ++ t) = (cur ++ [10]) :: rowsOf [] t := by
  rw [List.cons_append, List.nil_append, rowsOf, if_pos rfl]

theorem rune_cells {r : Nat} (hr : okR r) : Lib.runeCells (r : Int) = Lib.byteCells (encB r) := by
  have hle : r ≤ 1114111 := by unfold okR at hr; omega
  rcases Nat.lt_or_ge r 128 with h | h
  · rw [enc1 h, Lib.runeCells, Lib.encodeRuneZ_one (by omega) (by omega)]
    simp [Lib.byteCells]
    omega
  · rcases Nat.lt_or_ge r 2048 with h2 | h2
    · rw [enc2 h h2, Lib.runeCells, Lib.encodeRuneZ_two (by omega) (by omega)]
      simp [Lib.byteCells]
      omega
    · rcases Nat.lt_or_ge r 65536 with h3 | h3
      · rw [enc3 hr h2 h3, Lib.runeCells, Lib.encodeRuneZ_three (by unfold okR at hr; omega)]
        simp [Lib.byteCells]
        omega
      · rw [enc4 hr h3, Lib.runeCells, Lib.encodeRuneZ_four (by omega) (by omega)]
        simp [Lib.byteCells]
        omega

theorem own_kept {w w' : World} {base b : Nat} {e : TypeId} {size : Nat} {v : Value} {n : Nat} {xs : List Value} (h : w.ownsRow base e size v n xs) (k : Lib.OthersKept 5 (some b) w w') (hb : b < base) (he : e ≠ 5) : w'.ownsRow base e size v n xs := by
  refine ⟨h.1, ?_⟩
  rcases h.2 with hv | ⟨g, cap, cur, hv, hg, hc, hr⟩
  · exact .inl hv
  · refine .inr ⟨g, cap, cur, hv, hg, k g _ hc (by intro e; injection e with e; omega) (fun c fz h => ?_), hr⟩
    injection h with _ h2
    exact he h2

theorem own_apart {w : World} {B B' : Nat} {e e' : TypeId} {z z' : Nat} {v v' : Value} {n n' : Nat} {xs xs' : List Value} (h : w.ownsRow B e z v n xs) (h' : w.ownsRow B' e' z' v' n' xs') (he : e ≠ e') : v.ownBlock = none ∨ v.ownBlock ≠ v'.ownBlock := by
  rcases h.2 with ⟨hv, _⟩ | ⟨g, cap, cur, hv, _, hc, _⟩
  · subst hv; exact .inl rfl
  · rcases h'.2 with ⟨hv', _⟩ | ⟨g', cap', cur', hv', _, hc', _⟩
    · subst hv hv'
      exact .inr (fun e => by cases e)
    · subst hv hv'
      refine .inr (fun e1 => ?_)
      have e2 : g = g' := by simpa [Value.ownBlock] using e1
      subst e2
      rw [hc] at hc'
      injection hc' with hc'
      injection hc' with _ h2
      exact he h2
theorem buffer_kept {T e : TypeId} {B b : Nat} {bs : List Value} {w w' : World} {row : Option Nat} (h : Lib.IsBuffer T e B b bs w) (hg : w.grownBy w' row) (h1 : some b ≠ row)
    (h2 : ∀ v, w.ownsRow B e 1 v bs.length bs → v.ownBlock = none ∨ v.ownBlock ≠ row) : Lib.IsBuffer T e B b bs w' := by
  have hl := h.lt
  obtain ⟨hB, v, lr, hb, ho, hne⟩ := h
  exact ⟨hB, v, lr, (hg.block b hl h1).trans hb, ho.kept hg (h2 v ho), hne⟩
theorem byteCells_ten : Lib.byteCells [10] = Lib.runeCells ((10 : Nat) : Int) := by
  have := rune_cells (r := 10) (by unfold okR; omega)
  rw [enc1 (by omega)] at this
  exact this.symm

/-- Only the tape was asked. -/
def Draws (w w' : World) : Prop := ∃ n, w' = w.drewN n
theorem Draws.heap {w w' : World} (h : Draws w w') : w'.heap = w.heap := by obtain ⟨n, rfl⟩ := h; rfl
theorem Draws.below {B : Nat} {w w' : World} (h : Draws w w') : Below B w w' := by obtain ⟨n, rfl⟩ := h; exact ⟨rfl, rfl, rfl, Nat.le_refl _, fun _ _ => rfl⟩
theorem Draws.buffer {w w' : World} (h : Draws w w') {T e : TypeId} {B b : Nat} {bs : List Value} (k : Lib.IsBuffer T e B b bs w) : Lib.IsBuffer T e B b bs w' := by obtain ⟨n, rfl⟩ := h; exact k
theorem Draws.own {w w' : World} (h : Draws w w') {base z : Nat} {e : TypeId} {v : Value} {n : Nat} {xs : List Value} (k : w.ownsRow base e z v n xs) : w'.ownsRow base e z v n xs := by obtain ⟨n, rfl⟩ := h; exact k
theorem string_any (B b : Nat) (l : List UInt8) (w : World) (h : Lib.IsBuffer 60 5 B b (Lib.byteCells l) w) :
    Calls Tryd.prog 25 #[.pointer (some ⟨b, 0, none⟩)] w fun e w' => e = .returned (.string (ba l)) ∧ Draws w w' :=
  (Tryd.Buffer_String B b l w h).mono fun _ _ ⟨he, n, hn⟩ => ⟨he, n, hn⟩
theorem len_any (B b : Nat) (bs : List Value) (w : World) (h : Lib.IsBuffer 60 5 B b bs w) :
    Calls Tryd.prog 38 #[.pointer (some ⟨b, 0, none⟩)] w fun e w' => e = .returned (.int .i64 bs.length) ∧ Draws w w' :=
  (Tryd.Buffer_Len B b bs w h).mono fun _ _ ⟨he, n, hn⟩ => ⟨he, n, hn⟩

end Go.Proofs.YtlbgmcpjdfoalaaDoor
