/- Strings of the package's (a pointer to a row of code points): makeValueString, str, getString, strOf, and the methods length, getRunes, getGoString. -/
import Derived.Test.YtenibebomafdmaaDoorRow
import Derived.Test.YtenibebomafdmaaDoorRune
import Derived.Laws.Cover4
namespace Go.Proofs.YtenibebomafdmaaDoor
open Go.RowKit Rune

def runes (l : List Nat) : List Value := l.map runeV
theorem runes_len (l : List Nat) : (runes l).length = l.length := by simp [runes]
/-- The string of code points. -/
def ofR (l : List Nat) : ByteArray := ⟨(enc l).toArray⟩
theorem ofR_list (l : List Nat) : (ofR l).data.toList = enc l := by simp [ofR]
theorem ofR_of {s : ByteArray} {l : List Nat} (h : s.data.toList = enc l) : s = ofR l := by
  have : s.data = (enc l).toArray := by rw [← h]
  cases s; simp only [ofR]; congr
theorem ofR_lst {s : ByteArray} {l : List Nat} (h : lst s = enc l) : s = ofR l := ofR_of h
theorem ofR_app (a b : List Nat) : ofR (a ++ b) = ofR a ++ ofR b := by
  refine (ofR_of ?_).symm
  rw [enc_app, ← ofR_list a, ← ofR_list b]
  simp

theorem lst_append (a b : ByteArray) : lst (a ++ b) = lst a ++ lst b := by simp [lst]
theorem lst_step (s : ByteArray) (n : Nat) : lst (s ++ Utf8.encode (n : Int)) = lst s ++ encB n := lst_append _ _
theorem foldl_enc : ∀ (l : List Nat) (s : ByteArray), lst ((l.map (fun n : Nat => (n : Int))).foldl (fun r n => r ++ Utf8.encode n) s) = lst s ++ enc l
  | [], s => by simp [enc]
  | n :: l, s => by
    rw [List.map_cons, List.foldl_cons, foldl_enc l, enc_cons, lst_step, List.append_assoc]
theorem runesBytes_eq (l : List Nat) : runesBytes (l.map (fun n : Nat => (n : Int))) = ofR l :=
  ofR_of (foldl_enc l ByteArray.empty)

/-- A string of the package's, below block B. -/
def StrV (w : World) (B : Nat) (p : Value) (l : List Nat) : Prop :=
  ∃ g A c, p = .pointer (some ⟨g, 0, none⟩) ∧ g < B ∧ w.cell? ⟨g, 0, none⟩ = some (.slice A l.length c) ∧ RowV w B (.slice A l.length c) (runes l)
theorem StrV.keep {w w' : World} {B : Nat} {p : Value} {l : List Nat} (h : StrV w B p l) (hk : ∀ b o, b < B → w'.cell? ⟨b, o, none⟩ = w.cell? ⟨b, o, none⟩) : StrV w' B p l := by
  obtain ⟨g, A, c, hp, hg, c0, hr⟩ := h
  exact ⟨g, A, c, hp, hg, (hk _ _ hg).trans c0, hr.keep hk⟩
theorem StrV.below {w w' : World} {B B' : Nat} {p : Value} {l : List Nat} (h : StrV w B p l) (hb : Below B' w w') (hB : B ≤ B') : StrV w' B p l :=
  h.keep fun b o h => hb.cell (p := ⟨b, o, none⟩) (Nat.lt_of_lt_of_le h hB)
theorem StrV.more {w : World} {B B' : Nat} {p : Value} {l : List Nat} (h : StrV w B p l) (hB : B ≤ B') : StrV w B' p l := by
  obtain ⟨g, A, c, hp, hg, c0, hr⟩ := h
  exact ⟨g, A, c, hp, by omega, c0, hr.more hB⟩

def StrP (l : List Nat) (w : World) (e : Ending) (w' : World) : Prop := ∃ p, e = .returned (.iface 76 p) ∧ StrV w' w'.heap.size p l ∧ Below w.heap.size w w'

/-- []rune of the string of code points. -/
theorem conv_runes (l : List Nat) (hv : ∀ n ∈ l, okR n) (hl : l.length ≤ 70368744177664) (w : World) : (Go.convert 9 78 (.string (ofR l))).run Tryd.prog w =
    .ok (.slice (some ⟨w.heap.size, 0, none⟩) l.length (grownCap w l.length 0 21)) (w.drew.alloc (.cells ((runes l).toArray ++ Array.replicate (grownCap w l.length 0 21 - l.length) (.int .i32 0)) 21)) := by
  have hr := runesFrom_enc l (ofR l) [] (ofR l).size #[] hv (by rw [ofR_list]; rfl) (by
    have := enc_len hv
    have h2 : (ofR l).size = (enc l).length := by rw [← ofR_list]; simp
    omega)
  rw [List.length_nil] at hr
  have hr' : Conv.runesFrom (ofR l) (ofR l).size 0 #[] = (runes l).toArray := by rw [hr]; simp [runes]
  have hz : (Conv.runesFrom (ofR l) (ofR l).size 0 #[]).size = l.length := by rw [hr']; simp [runes]
  have := run_runes_of_string (P := Tryd.prog) w 9 78 21 (ofR l) (by kernel_rfl) (by kernel_rfl) (by kernel_rfl) (by rw [hz]; exact hl)
  rw [this, hz, hr']

/-- string of a row of code points. -/
theorem conv_string (l : List Nat) (w : World) (B : Nat) (A : Option Addr) (c : Nat) (h : RowV w B (.slice A l.length c) (runes l)) : (Go.convert 78 9 (.slice A l.length c)).run Tryd.prog w = .ok (.string (ofR l)) w := by
  rw [run_convert_runes_string (P := Tryd.prog) w 78 9 21 A l.length c (by kernel_rfl) (by kernel_rfl) (by kernel_rfl)]
  cases l with
  | nil =>
    obtain ⟨A', c', hv, _⟩ := h
    cases A with
    | none => rfl
    | some a =>
      have := run_runesToString (P := Tryd.prog) w a 0 c [] (by rfl)
      exact this
  | cons n l =>
    have hn : 0 < (runes (n :: l)).length := by simp [runes]
    obtain ⟨hl, hs⟩ := RowV.src h
    obtain ⟨ad, rfl, hc⟩ := hs (by simp)
    have hload := run_loadCells_list (P := Tryd.prog) w ad (runes (n :: l)) (fun j v hj => hc j v hj)
    rw [runes_len] at hload
    have := run_runesToString (P := Tryd.prog) w ad (n :: l).length c ((n :: l).map fun n : Nat => (n : Int)) (by rw [hload]; simp [runes, runeV])
    rw [this, runesBytes_eq]

theorem row_new (w : World) (l : List Nat) (k : Nat) (B : Nat) (hB : w.heap.size < B) (c : Nat) : RowV (w.alloc (.cells ((runes l).toArray ++ Array.replicate k (.int .i32 0)) 21)) B (.slice (some ⟨w.heap.size, 0, none⟩) l.length c) (runes l) := by
  refine ⟨_, c, by rw [runes_len], fun _ => ⟨w.heap.size, 0, rfl, hB, fun j u hu => ?_⟩⟩
  have := World.news_of_block (heap_alloc_new w (.cells ((runes l).toArray ++ Array.replicate k (.int .i32 0)) 21)) j u (by
    have hj := (List.getElem?_eq_some_iff.1 hu).1
    rw [Array.toList_append, List.getElem?_append_left (by simpa using hj)]
    simpa using hu)
  rw [add_plain'] at this
  exact this

theorem makeStr_any (l : List Nat) (hv : ∀ n ∈ l, okR n) (hl : l.length ≤ 70368744177664) (w : World) :
    Calls Tryd.prog 19 #[.string (ofR l)] w (StrP l w) := by
  have hc := fun w => conv_runes l hv hl w
  clear hv
  go_enter Tryd.func19, Tryd.ntmps19
  go_wp2
  go_ret
  refine ⟨_, rfl, ⟨w.heap.size + 1, some ⟨w.heap.size, 0, none⟩, grownCap w l.length 0 21, rfl, by simp, by simp [go_sem], ?_⟩, (((Below.refl _ _).alloc (Nat.le_refl _) _).alloc (by simp) _).drew⟩
  have h := row_new w l (grownCap w l.length 0 21 - l.length) (w.heap.size + 1) (by omega) (grownCap w l.length 0 21)
  have h2 : RowV ((w.alloc (.cells ((runes l).toArray ++ Array.replicate (grownCap w l.length 0 21 - l.length) (.int .i32 0)) 21)).alloc (Obj.cells #[Value.slice (some ⟨w.heap.size, 0, none⟩) l.length (grownCap w l.length 0 21)] 82)) (w.heap.size + 2) (.slice (some ⟨w.heap.size, 0, none⟩) l.length (grownCap w l.length 0 21)) (runes l) :=
    (h.keep fun b o hb => World.cell?_alloc_lt _ _ ⟨b, o, none⟩ (by simpa using hb)).more (by omega)
  have h3 := h2.more (B' := ((w.alloc (.cells ((runes l).toArray ++ Array.replicate (grownCap w l.length 0 21 - l.length) (.int .i32 0)) 21)).alloc (Obj.cells #[Value.slice (some ⟨w.heap.size, 0, none⟩) l.length (grownCap w l.length 0 21)] 82)).drew.heap.size) (by simp)
  exact h3

theorem str_any (l : List Nat) (hv : ∀ n ∈ l, okR n) (hl : l.length ≤ 70368744177664) (w : World) :
    Calls Tryd.prog 17 #[.string (ofR l)] w (StrP l w) := by
  go_enter Tryd.func17, Tryd.ntmps17
  go_wp2_with (go_at_call 19; refine (makeStr_any l hv hl _).mono ?_; rintro e w' ⟨p, rfl, hp, hb⟩)
  go_ret
  exact ⟨p, rfl, hp, hb⟩

theorem assert_str (v : Value) (w : World) : (Instr.typeAssert (.iface 76 v) 42 69 false).run Tryd.prog w = .ok (.iface 76 v) w := by kernel_rfl
theorem assert_str_ok (v : Value) (w : World) : (Instr.typeAssert (.iface 76 v) 42 69 true).run Tryd.prog w = .ok (.tuple #[.iface 76 v, .bool true]) w := by kernel_rfl

theorem getStr_any (i : Value) (v : Value) (w : World) :
    Calls Tryd.prog 18 #[i, .iface 76 v] w fun e w' => e = .returned (.tuple #[.iface 76 v, .nilIface]) ∧ w = w' := by
  have h1 := assert_str_ok v
  have h2 := assert_str v
  go_enter Tryd.func18, Tryd.ntmps18
  go_wp2
  go_ret2
  exact ⟨rfl, rfl⟩

theorem getGo_any (g : Nat) (l : List Nat) (w : World) (B : Nat) (A : Option Addr) (c : Nat) (hc : w.cell? ⟨g, 0, none⟩ = some (.slice A l.length c)) (hr : RowV w B (.slice A l.length c) (runes l)) :
    Calls Tryd.prog 52 #[.pointer (some ⟨g, 0, none⟩)] w fun e w' => e = .returned (.string (ofR l)) ∧ w = w' := by
  have hs := conv_string l w B A c hr
  clear hr
  go_enter Tryd.func52, Tryd.ntmps52
  go_wp2
  go_ret
  exact ⟨rfl, rfl⟩
theorem upon_method {P : Program} {o : Oper} {a : Act} {K : Act → World → Prop} {Q : Exit → Act → World → Prop} {f : Nat} {t : TypeId} {v : Value} {nm : String} {w : World} {g : FuncId × Value → World → Result Next} (r : FuncId × Value)
    (h : (method f t v nm).run P w = .ok r w) (h2 : Oper.upon P o a K Q (g r w)) : Oper.upon P o a K Q (((method f t v nm).run P w).andThen g) := by
  rw [h]; exact h2

set_option maxRecDepth 100000 in
theorem strOf_any (p : Value) (l : List Nat) (w : World) (B : Nat) (h : StrV w B p l) :
    Calls Tryd.prog 15 #[.iface 76 p, .nilIface] w fun e w' => e = .returned (.tuple #[.string (ofR l), .nilIface]) ∧ Below w.heap.size w w' := by
  obtain ⟨g, A, c, rfl, hg, hc, hr⟩ := h
  have h1 := assert_str (.pointer (some ⟨g, 0, none⟩))
  go_enter Tryd.func15, Tryd.ntmps15
  go_wp2_with fail
  refine upon_method (52, .pointer (some ⟨g, 0, none⟩)) (by kernel_rfl) ?_
  go_wp2_with fail
  refine (getGo_any g l _ B A c hc hr).mono ?_
  rintro e w' ⟨rfl, rfl⟩
  go_wp2_with fail
  go_ret2
  exact ⟨rfl, Below.refl _ _⟩
end Go.Proofs.YtenibebomafdmaaDoor
