/- Steps of an object's making in memory, and the contracts of the functions that only read them: zzFits5, zzFits12, zzFits11, kept7, hides. -/
import Derived.Test.YtadehfoamdkcmaaDoorRow
namespace Go.Proofs.YtadehfoamdkcmaaDoor
open Go.RowKit

def AnyBool (w : World) (e : Ending) (w' : World) : Prop := ∃ b, e = .returned (.bool b) ∧ w = w'
def AnyBoolB (w : World) (e : Ending) (w' : World) : Prop := ∃ b, e = .returned (.bool b) ∧ Below w.heap.size w w'
theorem bnext {w w1 w2 : World} (h1 : Below w.heap.size w w1) (h2 : Below w1.heap.size w1 w2) : Below w.heap.size w w2 := h1.trans (h2.mono h1.size)

/-- A step, as data. -/
structure St where
  is : Bool
  rem : ByteArray
  names : List ByteArray
  hides : List Int

def ints (l : List Int) : List Value := l.map (Value.int .i64)
theorem ints_len (l : List Int) : (ints l).length = l.length := by simp [ints]
def stVal (s : St) (nv hv : Value) : Value := .agg #[.bool s.is, .string s.rem, nv, hv]

theorem RowV.formI {w : World} {B : Nat} {v : Value} {ss : List Int} (h : RowV w B v (ints ss)) : ∃ A c, v = .slice A ss.length c := by
  obtain ⟨A, c, rfl, _⟩ := h
  exact ⟨A, c, by rw [ints_len]⟩
theorem RowV.atI {w : World} {B : Nat} {A : Option Addr} {n c : Nat} {ss : List Int} (h : RowV w B (.slice A n c) (ints ss)) {k : Nat} (hk : k < ss.length) :
    ∃ b off, A = some ⟨b, off, none⟩ ∧ b < B ∧ w.cell? ⟨b, off + k, none⟩ = some (.int .i64 (ss[k]'hk)) := h.get (by simp [ints, hk])

/-- A slice of steps that lies below block B. -/
def StsV (w : World) (B : Nat) (v : Value) (es : List St) : Prop :=
  ∃ A c, v = .slice A es.length c ∧ (0 < es.length → ∃ b off, A = some ⟨b, off, none⟩ ∧ b < B ∧ ∀ k e, es[k]? = some e → ∃ nv hv, RowV w B nv (strs e.names) ∧ RowV w B hv (ints e.hides) ∧
    w.cell? ⟨b, off + k * 4, none⟩ = some (.bool e.is) ∧ w.cell? ⟨b, off + k * 4 + 1, none⟩ = some (.string e.rem) ∧
    w.cell? ⟨b, off + k * 4 + 2, none⟩ = some nv ∧ w.cell? ⟨b, off + k * 4 + 3, none⟩ = some hv)

theorem StsV.keep {w w' : World} {B : Nat} {v : Value} {es : List St} (h : StsV w B v es) (hk : ∀ b o, b < B → w'.cell? ⟨b, o, none⟩ = w.cell? ⟨b, o, none⟩) : StsV w' B v es := by
  obtain ⟨A, c, hv, h⟩ := h
  refine ⟨A, c, hv, fun hn => ?_⟩
  obtain ⟨b, off, hA, hb, hc⟩ := h hn
  refine ⟨b, off, hA, hb, fun k e he => ?_⟩
  obtain ⟨nv, hv, h0, h0', h1, h2, h3, h4⟩ := hc k e he
  exact ⟨nv, hv, h0.keep hk, h0'.keep hk, (hk _ _ hb).trans h1, (hk _ _ hb).trans h2, (hk _ _ hb).trans h3, (hk _ _ hb).trans h4⟩
theorem StsV.below {w w' : World} {B B' : Nat} {v : Value} {es : List St} (h : StsV w B v es) (hb : Below B' w w') (hB : B ≤ B') : StsV w' B v es :=
  h.keep fun b o h => hb.cell (p := ⟨b, o, none⟩) (Nat.lt_of_lt_of_le h hB)
theorem StsV.more {w : World} {B B' : Nat} {v : Value} {es : List St} (h : StsV w B v es) (hB : B ≤ B') : StsV w B' v es := by
  obtain ⟨A, c, hv, h⟩ := h
  refine ⟨A, c, hv, fun hn => ?_⟩
  obtain ⟨b, off, hA, hb, hc⟩ := h hn
  refine ⟨b, off, hA, by omega, fun k e he => ?_⟩
  obtain ⟨nv, hv, h0, h0', h1⟩ := hc k e he
  exact ⟨nv, hv, h0.more hB, h0'.more hB, h1⟩
theorem StsV.now {w w' : World} {v : Value} {es : List St} (h : StsV w w.heap.size v es) (hb : Below w.heap.size w w') : StsV w' w'.heap.size v es := (h.below hb (Nat.le_refl _)).more hb.size
theorem RowV.now {w w' : World} {v : Value} {xs : List Value} (h : RowV w w.heap.size v xs) (hb : Below w.heap.size w w') : RowV w' w'.heap.size v xs := (h.below hb (Nat.le_refl _)).more hb.size
theorem StsV.form {w : World} {B : Nat} {v : Value} {es : List St} (h : StsV w B v es) : ∃ A c, v = .slice A es.length c := by
  obtain ⟨A, c, rfl, _⟩ := h
  exact ⟨A, c, rfl⟩
theorem StsV.at_ {w : World} {B : Nat} {A : Option Addr} {n c : Nat} {es : List St} (h : StsV w B (.slice A n c) es) {k : Nat} (hk : k < es.length) :
    ∃ b off An cn Ah ch, A = some ⟨b, off, none⟩ ∧ b < B ∧ RowV w B (.slice An (es[k]'hk).names.length cn) (strs (es[k]'hk).names) ∧ RowV w B (.slice Ah (es[k]'hk).hides.length ch) (ints (es[k]'hk).hides) ∧
      w.cell? ⟨b, off + k * 4, none⟩ = some (.bool (es[k]'hk).is) ∧ w.cell? ⟨b, off + k * 4 + 1, none⟩ = some (.string (es[k]'hk).rem) ∧
      w.cell? ⟨b, off + k * 4 + 2, none⟩ = some (.slice An (es[k]'hk).names.length cn) ∧ w.cell? ⟨b, off + k * 4 + 3, none⟩ = some (.slice Ah (es[k]'hk).hides.length ch) := by
  obtain ⟨A', c', hv, h⟩ := h
  obtain ⟨b, off, hA, hb, hc⟩ := h (by omega)
  obtain ⟨nv, hhv, hcn, hch, c0, c1, c2, c3⟩ := hc k _ (List.getElem?_eq_getElem hk)
  obtain ⟨An, cn, rfl⟩ := hcn.form
  obtain ⟨Ah, ch, rfl⟩ := hch.formI
  injection hv with h1
  exact ⟨b, off, An, cn, Ah, ch, h1.trans hA, hb, hcn, hch, c0, c1, c2, c3⟩

set_option maxHeartbeats 400000 in
theorem fits5_any (cv : Value) (ss : List ByteArray) (w : World) (B : Nat) (hr : RowV w B cv (strs ss)) (hl : ss.length ≤ 9223372036854775807) :
    Calls Tryd.prog 18 #[cv] w (AnyBool w) := by
  obtain ⟨A, c, rfl⟩ := hr.form
  have H := Lib.hid hr
  clear hr
  go_enter Tryd.func18, Tryd.ntmps18
  go_wp2
  · go_ret; exact ⟨_, rfl, rfl⟩
  · go_loop [10] (fun i => ∃ k : Nat, k ≤ ss.length ∧ i = .int .i64 k) (fun i => ss.length - (intOf i).toNat)
    case atStart => exact ⟨0, Nat.zero_le _, rfl⟩
    case round =>
      obtain ⟨k, hk, rfl⟩ := hrel
      by_cases hlt : k < ss.length
      · obtain ⟨b, off, rfl, hb, hcell⟩ := H.out.at_ hlt
        go_wp2
        · go_ret; exact ⟨_, rfl, rfl⟩
        · go_round
          case rel => exact ⟨k + 1, by omega, by go_num⟩
          case measure => simp [intOf]; omega
      · go_wp2
        go_ret; exact ⟨_, rfl, rfl⟩

set_option maxHeartbeats 400000 in
theorem fits12_any (e : St) (nv hv : Value) (w : World) (B : Nat) (hB : B ≤ w.heap.size) (hr : RowV w B nv (strs e.names)) (hh : RowV w B hv (ints e.hides)) (hl : e.names.length ≤ 9223372036854775807) :
    Calls Tryd.prog 12 #[stVal e nv hv] w (AnyBoolB w) := by
  obtain ⟨A, c, rfl⟩ := hr.form
  obtain ⟨Ah, ch, rfl⟩ := hh.formI
  clear hh
  unfold stVal
  go_enter Tryd.func12, Tryd.ntmps12
  go_wp2_with (go_at_call 18; refine (fits5_any _ e.names _ B (hr.below ((Below.refl w.heap.size _).alloc (Nat.le_refl _) _) hB) hl).mono ?_; rintro e w' ⟨b, rfl, rfl⟩)
  all_goals (go_ret; exact ⟨_, rfl, (Below.refl _ _).alloc (Nat.le_refl _) _⟩)

set_option maxHeartbeats 400000 in
theorem fits11_any (v : Value) (es : List St) (w : World) (hr : StsV w w.heap.size v es) (hl : es.length ≤ 9223372036854775807) (hc : ∀ e ∈ es, e.names.length ≤ 9223372036854775807) :
    Calls Tryd.prog 6 #[v] w (AnyBoolB w) := by
  have H := Lib.hid hr
  obtain ⟨A, c, rfl, _⟩ := hr
  go_enter Tryd.func6, Tryd.ntmps6
  go_wp2
  · go_ret; exact ⟨_, rfl, Below.refl _ _⟩
  · go_loopw [10] (fun i wr => ∃ k : Nat, k ≤ es.length ∧ i = .int .i64 k ∧ Below w.heap.size w wr) (fun i _ => es.length - (intOf i).toNat)
    case atStart => exact ⟨0, Nat.zero_le _, rfl, Below.refl _ _⟩
    case round =>
      obtain ⟨k, hk, rfl, hb⟩ := hrel
      by_cases hlt : k < es.length
      · obtain ⟨b, off, An, cn, Ah, ch, rfl, hbB, hcn, hch, c0, c1, c2, c3⟩ := (H.out.below hb (Nat.le_refl _)).at_ hlt
        have hlc := hc _ (List.getElem_mem hlt)
        go_wp2_with (go_at_call 12; refine (fits12_any es[k] (.slice An es[k].names.length cn) (.slice Ah es[k].hides.length ch) _ w.heap.size (by have := hb.size; simp; omega) (hcn.below ((Below.refl wr.heap.size _).alloc (Nat.le_refl _) _) hb.size) (hch.below ((Below.refl wr.heap.size _).alloc (Nat.le_refl _) _) hb.size) hlc).mono ?_; rintro e w' ⟨b', rfl, hb'⟩)
        · go_ret; exact ⟨_, rfl, (hb.alloc hb.size _).trans (hb'.mono (by have := hb.size; simp; omega))⟩
        · go_roundw
          case rel => exact ⟨k + 1, by omega, by go_num, (hb.alloc hb.size _).trans (hb'.mono (by have := hb.size; simp; omega))⟩
          case measure => simp [intOf]; omega
      · go_wp2
        go_ret; exact ⟨_, rfl, hb⟩

/-- Nothing is taken out. -/
def Kept (es : List St) : Prop := ∀ (k : Nat) (e : St), es[k]? = some e → e.is = false
def KeptP (es : List St) (w : World) (e : Ending) (w' : World) : Prop := ∃ b, e = .returned (.bool b) ∧ w' = w ∧ (b = true → Kept es)
theorem kept_any (v : Value) (es : List St) (w : World) (hr : StsV w w.heap.size v es) (hl : es.length ≤ 9223372036854775807) :
    Calls Tryd.prog 8 #[v] w (KeptP es w) := by
  have H := Lib.hid hr
  obtain ⟨A, c, rfl, _⟩ := hr
  go_enter Tryd.func8, Tryd.ntmps8
  go_wp2
  go_loop [3] (fun i => ∃ k : Nat, k ≤ es.length ∧ i = .int .i64 k ∧ Hid (∀ (j : Nat) (e : St), j < k → es[j]? = some e → e.is = false)) (fun i => es.length - (intOf i).toNat)
  case atStart => exact ⟨0, Nat.zero_le _, rfl, Lib.hid (fun j e h => by omega)⟩
  case round =>
    obtain ⟨k, hk, rfl, HK⟩ := hrel
    by_cases hlt : k < es.length
    · have hlt' : (k : Int) < (es.length : Int) := by omega
      obtain ⟨b, off, An, cn, Ah, ch, rfl, hbB, hcn, hch, c0, c1, c2, c3⟩ := H.out.at_ hlt
      have hg := Lib.hid (List.getElem?_eq_getElem hlt)
      cases hi : es[k].is with
      | true =>
        rw [hi] at c0
        go_wp2_with fail
        go_ret
        exact ⟨false, rfl, rfl, fun h => by cases h⟩
      | false =>
        rw [hi] at c0
        have HI := Lib.hid hi
        clear hi
        go_wp2_with fail
        go_round
        case rel =>
          refine ⟨k + 1, by omega, by go_num, Lib.hid fun j e hj he => ?_⟩
          rcases Nat.lt_or_ge j k with h | h
          · exact HK.out j e h he
          · obtain rfl : j = k := by omega
            rw [hg.out] at he
            injection he with he
            rw [← he]
            exact HI.out
        case measure => simp [intOf]; omega
    · obtain rfl : k = es.length := by omega
      go_wp2_with fail
      go_ret
      exact ⟨true, rfl, rfl, fun _ j e he => HK.out j e (List.getElem?_eq_some_iff.1 he).1 he⟩

def okHide (h : Int) : Prop := h = 0 ∨ h = 1 ∨ h = 2
def HideP (w : World) (e : Ending) (w' : World) : Prop := w' = w ∧ ∃ m, e = .returned (.tuple #[.int .i64 m, .bool true])
theorem hides_any (h : Int) (hh : okHide h) (w : World) : Calls Tryd.prog 19 #[.int .i64 h] w (HideP w) := by
  rcases hh with rfl | rfl | rfl
  all_goals
    go_enter Tryd.func19, Tryd.ntmps19
    go_wp2_with fail
    go_ret2
    exact ⟨rfl, _, rfl⟩
end Go.Proofs.YtadehfoamdkcmaaDoor
