/- unparseString: a string of code points, escaped, between quotes. -/
import Derived.Test.YtadehfoamdkcmaaDoorTaB
import Derived.Test.YtadehfoamdkcmaaDoorSh
import Derived.Lib.BufferKept
import Derived.Lib.BufferOld
import Derived.Lib.RuneLoops
import Derived.BigCall
import Derived.Laws.RangeAny
namespace Go.Proofs.YtadehfoamdkcmaaDoor
open Go.RowKit Rune

/-- What remains of a string from a place on is made of code points. -/
def Rem (s : ByteArray) (pos : Nat) (l : List Nat) : Prop := pos ≤ s.size ∧ (∀ n ∈ l, okR n) ∧ s.data.toList.drop pos = enc l
def PointAt (s : ByteArray) (i r n : Nat) : Prop := okR r ∧ n = (encB r).length ∧ ∀ k x, (encB r)[k]? = some x → s.data.toList[i + k]? = some x
theorem size_list (s : ByteArray) : s.data.toList.length = s.size := by rw [Array.length_toList]; rfl
theorem Rem.nil_end {s : ByteArray} {pos : Nat} (h : Rem s pos []) : pos = s.size := by
  have h2 := congrArg List.length h.2.2
  simp only [List.length_drop, size_list, enc, List.flatMap_nil, List.length_nil] at h2
  have := h.1
  omega
theorem Rem.head {s : ByteArray} {pos r : Nat} {l : List Nat} (h : Rem s pos (r :: l)) : PointAt s pos r (encB r).length ∧ Rem s (pos + (encB r).length) l ∧ pos < s.size := by
  have hr : okR r := h.2.1 r (List.mem_cons_self ..)
  have hp := encB_pos hr
  have hd := h.2.2
  rw [enc_cons] at hd
  have hl := congrArg List.length hd
  simp only [List.length_drop, size_list, List.length_append] at hl
  have h1 := h.1
  refine ⟨⟨hr, rfl, fun k x hx => ?_⟩, ⟨by omega, fun n hn => h.2.1 n (List.mem_cons_of_mem _ hn), ?_⟩, by omega⟩
  · have hk := (List.getElem?_eq_some_iff.1 hx).1
    have := congrArg (fun m => m[k]?) hd
    simp only [List.getElem?_drop] at this
    rw [this, List.getElem?_append_left hk, hx]
  · rw [← List.drop_drop, hd, List.drop_left]
theorem Utf.rem {s : ByteArray} (h : Utf s.data.toList) : ∃ l, Rem s 0 l := by
  obtain ⟨r, hr, he⟩ := h
  exact ⟨r, Nat.zero_le _, hr, by simpa using he⟩
theorem Rem.len {s : ByteArray} {l : List Nat} (h : Rem s 0 l) : l.length ≤ s.size := by
  have h1 := enc_len h.2.1
  have h2 := congrArg List.length h.2.2
  rw [List.drop_zero, size_list] at h2
  omega
theorem Rem.app {a b : ByteArray} {x y : List Nat} (h : Rem a 0 x) (k : Rem b 0 y) : Rem (a ++ b) 0 (x ++ y) := by
  refine ⟨Nat.zero_le _, fun n hn => ?_, ?_⟩
  · rcases List.mem_append.1 hn with hn | hn
    · exact h.2.1 n hn
    · exact k.2.1 n hn
  · have h1 := h.2.2
    have k1 := k.2.2
    rw [List.drop_zero] at h1 k1 ⊢
    rw [ByteArray.data_append, Array.toList_append, h1, k1, enc_app]

def ba (l : List UInt8) : ByteArray := ⟨l.toArray⟩
theorem rune_cells {r : Nat} (hr : okR r) : Lib.runeCells (r : Int) = Lib.byteCells (encB r) := by
  have hle : r ≤ 1114111 := by unfold okR at hr; omega
  rcases Nat.lt_or_ge r 128 with h | h
  · rw [enc1 h, Lib.runeCells, Lib.encodeRuneZ_one (by omega) (by omega)]
    simp [Lib.byteCells]
    omega
  · rcases Nat.lt_or_ge r 2048 with h2 | h2
    · rw [enc2 h h2, Lib.runeCells, Lib.encodeRuneZ_two (by omega) (by omega)]
      simp [Lib.byteCells]
      omega
    · rcases Nat.lt_or_ge r 65536 with h3 | h3
      · rw [enc3 hr h2 h3, Lib.runeCells, Lib.encodeRuneZ_three (by unfold okR at hr; omega)]
        simp [Lib.byteCells]
        omega
      · rw [enc4 hr h3, Lib.runeCells, Lib.encodeRuneZ_four (by omega) (by omega)]
        simp [Lib.byteCells]
        omega
/-- Only the tape was asked. -/
def Draws (w w' : World) : Prop := ∃ n, w' = w.drewN n
theorem Draws.below {B : Nat} {w w' : World} (h : Draws w w') : Below B w w' := by obtain ⟨n, rfl⟩ := h; exact ⟨rfl, rfl, rfl, Nat.le_refl _, fun _ _ => rfl⟩
theorem string_any (B b : Nat) (l : List UInt8) (w : World) (h : Lib.IsBuffer 97 5 B b (Lib.byteCells l) w) :
    Calls Tryd.prog 29 #[.pointer (some ⟨b, 0, none⟩)] w fun e w' => e = .returned (.string (ba l)) ∧ Draws w w' :=
  (Tryd.Buffer_String B b l w h).mono fun _ _ ⟨he, n, hn⟩ => ⟨he, n, hn⟩

/-- A string written onto the buffer. -/
def PutP (B b : Nat) (l : List UInt8) (w : World) (w' : World) : Prop := Lib.IsBuffer 97 5 B b (Lib.byteCells l) w' ∧ Below B w w' ∧ Lib.OthersKept 5 (some b) w w'
theorem put_any (B b : Nat) (l : List UInt8) (x : ByteArray) (w : World) (h : Lib.IsBuffer 97 5 B b (Lib.byteCells l) w) (hB : B ≤ w.heap.size) (hl : l.length ≤ 20000) (hx : x.size ≤ 1000) :
    Calls Tryd.prog 26 #[.pointer (some ⟨b, 0, none⟩), .string x] w fun e w' => e = .returned (.tuple #[.int .i64 x.size, .nilIface]) ∧ PutP B b (l ++ x.data.toList) w w' :=
  (Tryd.Buffer_WriteString_k B b _ x w h hB (Lib.byteCells_one _) (by rw [Lib.byteCells_length]; omega)).mono fun _ _ ⟨he, h1, h2, h3⟩ => ⟨he, by rw [Lib.byteCells_append]; exact h1, h2, h3⟩

def UnP (l : List Nat) (w : World) (e : Ending) (w' : World) : Prop := e = .returned (.string (ba (text l))) ∧ Below w.heap.size w w'
theorem esc_step {a b l0 : List Nat} {r : Nat} (h : a ++ r :: b = l0) : (a ++ [r]) ++ b = l0 := by rw [← h]; simp

set_option maxHeartbeats 8000000 in
set_option maxRecDepth 1000000 in
theorem unparse_any (s : ByteArray) (l0 : List Nat) (h0 : Rem s 0 l0) (hs : s.size ≤ 2000) (w : World) (hD : w.cell? ⟨5, 15, none⟩ = some (.int .u8 4)) : Calls Tryd.prog 22 #[.string s] w (UnP l0 w) := by
  have hll := h0.len
  have h5 : 5 < w.heap.size := block_lt_of_cell hD
  have H0 := Lib.hid h0
  have HD := Lib.hid hD
  have HOK := Lib.hid h0.2.1
  have HI0 := Lib.hid (show Lib.IsBuffer 97 5 w.heap.size w.heap.size (Lib.byteCells []) (w.alloc (.cells #[.slice none 0 0, .int .i64 0, .int .i8 0] 97)) from Lib.fresh_isBuffer 97 5 w)
  clear h0 hD
  go_enter Tryd.func22, Tryd.ntmps22
  go_wp2_with (go_at_call 26; refine (put_any w.heap.size w.heap.size [] _ _ HI0.out (by simp) (by simp) (by decide)).mono ?_; rintro e W1 ⟨rfl, hI1, hB1, hK1⟩; refine Hid.out ?_)
  refine Lib.hid ?_
  have HI1 := Lib.hid (show Lib.IsBuffer 97 5 w.heap.size w.heap.size (Lib.byteCells ([34] ++ esc [])) W1 from hI1)
  have HB1 := Lib.hid (show Below w.heap.size w W1 from ((Below.refl _ w).alloc (Nat.le_refl _) _).trans hB1)
  clear hI1 hB1 hK1 HI0
  go_wp2_with fail
  have hit0 := World.iter_heap W1 s 0
  have HIT0 := Lib.hid hit0
  have HI2 := Lib.hid (show Lib.IsBuffer 97 5 w.heap.size w.heap.size (Lib.byteCells ([34] ++ esc [])) (W1.iter s 0) from HI1.out.alloc _)
  have HB2 := Lib.hid (show Below w.heap.size w (W1.iter s 0) from HB1.out.alloc HB1.out.size _)
  have hNG : w.heap.size < W1.heap.size := HI1.out.lt
  clear hit0 HI1 HB1
  generalize W1.iter s 0 = X0 at HIT0 HI2 HB2 ⊢
  generalize W1.heap.size = G at HIT0 hNG ⊢
  go_loopw [5] (fun _ wr => ∃ (pos : Nat) (dn l : List Nat), Hid (Rem s pos l) ∧ Hid (Lib.IsBuffer 97 5 w.heap.size w.heap.size (Lib.byteCells ([34] ++ esc dn)) wr) ∧ Hid (wr.heap[G]? = some (.stringIter s pos)) ∧ Hid (Below w.heap.size w wr) ∧ Hid (dn ++ l = l0)) (fun _ wr => s.size - wr.iterPos G)
  case atStart => exact ⟨0, [], l0, H0, HI2, HIT0, HB2, Lib.hid rfl⟩
  case round =>
    obtain ⟨pos, dn, l, HR, HI, HIT, HB, HA⟩ := hrel
    have hit := HIT.out
    have hGs : G < wr.heap.size := (Array.getElem?_eq_some_iff.1 hit).1
    have hpz := HR.out.1
    have hdn : dn.length ≤ s.size := by have := congrArg List.length HA.out; rw [List.length_append] at this; omega
    have hdl : (esc dn).length ≤ 6 * dn.length := esc_len (fun n hn => HOK.out n (by rw [← HA.out]; exact List.mem_append_left _ hn))
    have hdz : ([34] ++ esc dn).length ≤ 12001 := by rw [List.length_append]; simp only [List.length_cons, List.length_nil]; omega
    cases l with
    | nil =>
      obtain rfl : pos = s.size := HR.out.nil_end
      have hnx := fun ty => Lib.run_next_end_at (P := Tryd.prog) wr G s s.size ty hit (by omega)
      have hdn0 : dn = l0 := by have := HA.out; simpa using this
      have hls := HB.out.size
      clear hit
      go_wp2_with (go_at_call 26; refine (put_any w.heap.size w.heap.size _ _ _ HI.out hls (by omega) (by decide)).mono ?_; rintro e W2 ⟨rfl, hI2, hB2, hK2⟩; refine Hid.out ?_)
      refine Lib.hid ?_
      have HI3 := Lib.hid (show Lib.IsBuffer 97 5 w.heap.size w.heap.size (Lib.byteCells (text l0)) W2 by rw [← hdn0]; exact hI2)
      have HB3 := Lib.hid (HB.out.trans hB2)
      clear hI2 hB2 hK2 hdn0
      go_wp2_with (go_at_call 29; refine (string_any w.heap.size w.heap.size _ _ HI3.out).mono ?_; rintro e W3 ⟨rfl, hd⟩; refine Hid.out ?_)
      refine Lib.hid ?_
      have HB4 := Lib.hid (HB3.out.trans hd.below)
      clear hd
      go_wp2_with fail
      go_ret
      exact ⟨rfl, HB4.out⟩
    | cons r l =>
      obtain ⟨hpt, hrem, hp⟩ := HR.out.head
      have hok : okR r := hpt.1
      have hdec : Utf8.decode s pos = (r, (encB r).length) := decode_at hpt.1 hpt.2.2
      have hnx := fun ty => Lib.run_next_any_at (P := Tryd.prog) wr G s pos ty hit hp
      simp only [hdec] at hnx
      have hlen := encB_pos hok
      have HREM := Lib.hid hrem
      have HOKR := Lib.hid hok
      have hpz2 := hrem.1
      have HI2 := Lib.hid (HI.out.iterAt hit (pos + (encB r).length))
      have HIT2 := Lib.hid (Lib.iterAt_heap wr G s pos (pos + (encB r).length) hit)
      have HB2 := Lib.hid (Lib.below_iterAt HB.out (k := G) (by omega) s (pos + (encB r).length))
      have HA2 := Lib.hid (esc_step HA.out)
      have hmeas : wr.iterPos G = pos := by simp [World.iterPos, hit]
      rw [hmeas]
      clear hpt hrem hdec hok hit hmeas
      generalize wr.iterAt G s (pos + (encB r).length) = W0 at hnx HI2 HIT2 HB2
      have hsz0 := HB2.out.size
      have go : ∀ (x : ByteArray), x.data.toList = escB r → x.size ≤ 1000 → Calls Tryd.prog 26 #[.pointer (some ⟨w.heap.size, 0, none⟩), .string x] W0 fun e w' => e = .returned (.tuple #[.int .i64 x.size, .nilIface]) ∧ PutP w.heap.size w.heap.size ([34] ++ esc (dn ++ [r])) W0 w' := fun x hx hz => by
        have := put_any w.heap.size w.heap.size _ x W0 HI2.out hsz0 (by omega) hz
        rw [hx, List.append_assoc, ← esc_snoc] at this
        exact this
      have GO := Lib.hid go
      clear go
      by_cases h34 : r = 34
      · subst h34
        go_wp2_with (go_at_call 26; refine (GO.out _ rfl (by decide)).mono ?_; rintro e W2 ⟨rfl, hI3, hB3, hK3⟩; refine Hid.out ?_)
        refine Lib.hid ?_
        have HIT3 := Lib.hid (hK3.iter HIT2.out (by omega))
        have HI3 := Lib.hid hI3
        have HB3 := Lib.hid (HB2.out.trans hB3)
        clear hI3 hB3 hK3
        go_wp2_with fail
        go_roundw
        case rel => exact ⟨_, _, l, HREM, HI3, HIT3, HB3, HA2⟩
        case measure =>
          simp only [World.iterPos, HIT3.out]
          omega
      by_cases h92 : r = 92
      · subst h92
        go_wp2_with (go_at_call 26; refine (GO.out _ rfl (by decide)).mono ?_; rintro e W2 ⟨rfl, hI3, hB3, hK3⟩; refine Hid.out ?_)
        refine Lib.hid ?_
        have HIT3 := Lib.hid (hK3.iter HIT2.out (by omega))
        have HI3 := Lib.hid hI3
        have HB3 := Lib.hid (HB2.out.trans hB3)
        clear hI3 hB3 hK3
        go_wp2_with fail
        go_roundw
        case rel => exact ⟨_, _, l, HREM, HI3, HIT3, HB3, HA2⟩
        case measure =>
          simp only [World.iterPos, HIT3.out]
          omega
      by_cases h8 : r = 8
      · subst h8
        go_wp2_with (go_at_call 26; refine (GO.out _ rfl (by decide)).mono ?_; rintro e W2 ⟨rfl, hI3, hB3, hK3⟩; refine Hid.out ?_)
        refine Lib.hid ?_
        have HIT3 := Lib.hid (hK3.iter HIT2.out (by omega))
        have HI3 := Lib.hid hI3
        have HB3 := Lib.hid (HB2.out.trans hB3)
        clear hI3 hB3 hK3
        go_wp2_with fail
        go_roundw
        case rel => exact ⟨_, _, l, HREM, HI3, HIT3, HB3, HA2⟩
        case measure =>
          simp only [World.iterPos, HIT3.out]
          omega
      by_cases h12 : r = 12
      · subst h12
        go_wp2_with (go_at_call 26; refine (GO.out _ rfl (by decide)).mono ?_; rintro e W2 ⟨rfl, hI3, hB3, hK3⟩; refine Hid.out ?_)
        refine Lib.hid ?_
        have HIT3 := Lib.hid (hK3.iter HIT2.out (by omega))
        have HI3 := Lib.hid hI3
        have HB3 := Lib.hid (HB2.out.trans hB3)
        clear hI3 hB3 hK3
        go_wp2_with fail
        go_roundw
        case rel => exact ⟨_, _, l, HREM, HI3, HIT3, HB3, HA2⟩
        case measure =>
          simp only [World.iterPos, HIT3.out]
          omega
      by_cases h10 : r = 10
      · subst h10
        go_wp2_with (go_at_call 26; refine (GO.out _ rfl (by decide)).mono ?_; rintro e W2 ⟨rfl, hI3, hB3, hK3⟩; refine Hid.out ?_)
        refine Lib.hid ?_
        have HIT3 := Lib.hid (hK3.iter HIT2.out (by omega))
        have HI3 := Lib.hid hI3
        have HB3 := Lib.hid (HB2.out.trans hB3)
        clear hI3 hB3 hK3
        go_wp2_with fail
        go_roundw
        case rel => exact ⟨_, _, l, HREM, HI3, HIT3, HB3, HA2⟩
        case measure =>
          simp only [World.iterPos, HIT3.out]
          omega
      by_cases h13 : r = 13
      · subst h13
        go_wp2_with (go_at_call 26; refine (GO.out _ rfl (by decide)).mono ?_; rintro e W2 ⟨rfl, hI3, hB3, hK3⟩; refine Hid.out ?_)
        refine Lib.hid ?_
        have HIT3 := Lib.hid (hK3.iter HIT2.out (by omega))
        have HI3 := Lib.hid hI3
        have HB3 := Lib.hid (HB2.out.trans hB3)
        clear hI3 hB3 hK3
        go_wp2_with fail
        go_roundw
        case rel => exact ⟨_, _, l, HREM, HI3, HIT3, HB3, HA2⟩
        case measure =>
          simp only [World.iterPos, HIT3.out]
          omega
      by_cases h9 : r = 9
      · subst h9
        go_wp2_with (go_at_call 26; refine (GO.out _ rfl (by decide)).mono ?_; rintro e W2 ⟨rfl, hI3, hB3, hK3⟩; refine Hid.out ?_)
        refine Lib.hid ?_
        have HIT3 := Lib.hid (hK3.iter HIT2.out (by omega))
        have HI3 := Lib.hid hI3
        have HB3 := Lib.hid (HB2.out.trans hB3)
        clear hI3 hB3 hK3
        go_wp2_with fail
        go_roundw
        case rel => exact ⟨_, _, l, HREM, HI3, HIT3, HB3, HA2⟩
        case measure =>
          simp only [World.iterPos, HIT3.out]
          omega
      by_cases h0 : r = 0
      · subst h0
        go_wp2_with (go_at_call 26; refine (GO.out _ rfl (by decide)).mono ?_; rintro e W2 ⟨rfl, hI3, hB3, hK3⟩; refine Hid.out ?_)
        refine Lib.hid ?_
        have HIT3 := Lib.hid (hK3.iter HIT2.out (by omega))
        have HI3 := Lib.hid hI3
        have HB3 := Lib.hid (HB2.out.trans hB3)
        clear hI3 hB3 hK3
        go_wp2_with fail
        go_roundw
        case rel => exact ⟨_, _, l, HREM, HI3, HIT3, HB3, HA2⟩
        case measure =>
          simp only [World.iterPos, HIT3.out]
          omega
      have hz11 : (r : Int) ≤ 1114111 := by have := HOKR.out; unfold okR at this; omega
      have hz00 : 0 ≤ (r : Int) := by omega
      obtain ⟨z, hzr⟩ : ∃ z : Int, (r : Int) = z := ⟨_, rfl⟩
      have HZ := Lib.hid hzr
      have q34 : (z == 34) = false := by rw [beq_eq_false_iff_ne]; omega
      have q92 : (z == 92) = false := by rw [beq_eq_false_iff_ne]; omega
      have q8 : (z == 8) = false := by rw [beq_eq_false_iff_ne]; omega
      have q12 : (z == 12) = false := by rw [beq_eq_false_iff_ne]; omega
      have q10 : (z == 10) = false := by rw [beq_eq_false_iff_ne]; omega
      have q13 : (z == 13) = false := by rw [beq_eq_false_iff_ne]; omega
      have q9 : (z == 9) = false := by rw [beq_eq_false_iff_ne]; omega
      have q0 : (z == 0) = false := by rw [beq_eq_false_iff_ne]; omega
      by_cases hx : r < 32 ∨ (127 ≤ r ∧ r ≤ 159)
      · have hesc : escB r = [92, 117] ++ (hexT (65536 + r) 5).drop 1 := by
          unfold escB
          rw [if_neg h34, if_neg h92, if_neg h8, if_neg h12, if_neg h10, if_neg h13, if_neg h9, if_neg h0, if_pos hx]
        obtain ⟨F, hF⟩ : ∃ F : ByteArray, F = ⟨(hexT (65536 + r) 5).toArray⟩ := ⟨_, rfl⟩
        have hFz : F.size = 5 := by rw [hF]; exact hexT_len _ 5
        have hFl : (({ data := #[92, 117] } : ByteArray) ++ F.extract 1 F.size).data.toList = escB r := by
          rw [ByteArray.data_append, Array.toList_append, ByteArray.data_extract, Array.toList_extract, List.extract_eq_take_drop, hesc, hFz, hF]
          have hl5 := hexT_len (65536 + r) 5
          rw [List.take_of_length_le (by simp [hl5])]
        have hFs : (({ data := #[92, 117] } : ByteArray) ++ F.extract 1 F.size).size ≤ 1000 := by rw [← size_list, hFl]; have := escB_len HOKR.out; omega
        have hFe : (F.extract 1 F.size).size ≤ 5 := by rw [← size_list, ByteArray.data_extract, Array.toList_extract, List.extract_eq_take_drop, hFz]; simp; omega
        have HFC := Lib.hid (fun W (h : W.cell? ⟨5, 15, none⟩ = some (.int .u8 4)) => fmt_any (65536 + r) (by omega) (by omega) W h)
        rw [← hF] at HFC
        have en : ((65536 + r : Nat) : Int) = 65536 + z := by omega
        rw [en] at HFC
        have HFL := Lib.hid hFl
        have hz160 : z ≤ 159 := by omega
        have hzp : 0 ≤ z := by omega
        have hzz : z < 32 ∨ (127 ≤ z ∧ z ≤ 159) := by omega
        have HFZ := Lib.hid hFz
        rw [hzr] at hnx
        clear h34 h92 h8 h12 h10 h13 h9 h0 hx hesc hF hFl hzr hz11 en
        have HT := Lib.hid (show W0.cell? ⟨5, 15, none⟩ = some (.int .u8 4) from (HB2.out.cell (p := ⟨5, 15, none⟩) h5).trans HD.out)
        have hz3 : 1 ≤ F.size := by omega
        have hz4 : ((1 : Int) ≤ (F.size : Int)) := by omega
        have hz6 : F.size ≤ 5 := by omega
        clear hFz
        rcases hzz with hzz | ⟨hz1, hz2⟩
        · go_wp2_with (go_at_call 27; refine (HFC.out _ HT.out).mono ?_; rintro e W2 ⟨rfl, hb2⟩; refine Hid.out ?_)
          refine Lib.hid ?_
          have HB2b := Lib.hid hb2
          have HIT2b := Lib.hid ((hb2.block G (Array.getElem?_eq_some_iff.1 HIT2.out).1).trans HIT2.out)
          have HI2b := Lib.hid (HI2.out.old hb2)
          have HBb := Lib.hid (HB2.out.trans (hb2.mono hsz0))
          have hszb := HBb.out.size
          have HP := Lib.hid (put_any w.heap.size w.heap.size _ (({ data := #[92, 117] } : ByteArray) ++ F.extract 1 F.size) W2 HI2b.out hszb (by omega) hFs)
          rw [HFL.out, List.append_assoc, ← esc_snoc] at HP
          clear hb2
          go_wp2_with (go_at_call 26; refine HP.out.mono ?_; rintro e W3 ⟨rfl, hI3, hB3, hK3⟩; refine Hid.out ?_)
          refine Lib.hid ?_
          have HIT3 := Lib.hid (hK3.iter HIT2b.out (by omega))
          have HI3 := Lib.hid hI3
          have HB3 := Lib.hid (HBb.out.trans hB3)
          clear hI3 hB3 hK3
          go_wp2_with fail
          go_roundw
          case rel => exact ⟨_, _, l, HREM, HI3, HIT3, HB3, HA2⟩
          case measure =>
            simp only [World.iterPos, HIT3.out]
            omega
        · have hnz : ¬ z < 32 := by omega
          have e32 : decide (z < 32) = false := decide_eq_false hnz
          have e1 : decide (127 ≤ z) = true := decide_eq_true hz1
          have e2 : decide (z ≤ 159) = true := decide_eq_true hz2
          go_wp2_with (go_at_call 27; refine (HFC.out _ HT.out).mono ?_; rintro e W2 ⟨rfl, hb2⟩; refine Hid.out ?_)
          refine Lib.hid ?_
          have HB2b := Lib.hid hb2
          have HIT2b := Lib.hid ((hb2.block G (Array.getElem?_eq_some_iff.1 HIT2.out).1).trans HIT2.out)
          have HI2b := Lib.hid (HI2.out.old hb2)
          have HBb := Lib.hid (HB2.out.trans (hb2.mono hsz0))
          have hszb := HBb.out.size
          have HP := Lib.hid (put_any w.heap.size w.heap.size _ (({ data := #[92, 117] } : ByteArray) ++ F.extract 1 F.size) W2 HI2b.out hszb (by omega) hFs)
          rw [HFL.out, List.append_assoc, ← esc_snoc] at HP
          clear hb2
          go_wp2_with (go_at_call 26; refine HP.out.mono ?_; rintro e W3 ⟨rfl, hI3, hB3, hK3⟩; refine Hid.out ?_)
          refine Lib.hid ?_
          have HIT3 := Lib.hid (hK3.iter HIT2b.out (by omega))
          have HI3 := Lib.hid hI3
          have HB3 := Lib.hid (HBb.out.trans hB3)
          clear hI3 hB3 hK3
          go_wp2_with fail
          go_roundw
          case rel => exact ⟨_, _, l, HREM, HI3, HIT3, HB3, HA2⟩
          case measure =>
            simp only [World.iterPos, HIT3.out]
            omega
      · have hesc : escB r = encB r := by
          unfold escB
          rw [if_neg h34, if_neg h92, if_neg h8, if_neg h12, if_neg h10, if_neg h13, if_neg h9, if_neg h0, if_neg hx]
        have HWR := Lib.hid (Tryd.Buffer_WriteRune_k w.heap.size w.heap.size _ z (by omega) (by omega) W0 HI2.out hsz0 (Lib.byteCells_one _) (by rw [Lib.byteCells_length]; omega))
        have HC := Lib.hid (show Lib.byteCells ([34] ++ esc dn) ++ Lib.runeCells z = Lib.byteCells ([34] ++ esc (dn ++ [r])) by
          rw [← HZ.out, rune_cells HOKR.out, esc_snoc, hesc, ← List.append_assoc, Lib.byteCells_append ([34] ++ esc dn)])
        have hz32 : ¬ z < 32 := by omega
        have hzz : z < 127 ∨ 159 < z := by omega
        rw [hzr] at hnx
        clear h34 h92 h8 h12 h10 h13 h9 h0 hx hesc hzr hz11
        have e32 : decide (z < 32) = false := decide_eq_false hz32
        rcases hzz with hz1 | hz1
        · have e1 : decide (127 ≤ z) = false := decide_eq_false (by omega)
          have e2 : ¬ (127 ≤ z) := by omega
          go_wp2_with (go_at_call 28; refine HWR.out.mono ?_; rintro e W3 ⟨rfl, hI3, hB3, hK3⟩; refine Hid.out ?_)
          refine Lib.hid ?_
          rw [HC.out] at hI3
          have HIT3 := Lib.hid (hK3.iter HIT2.out (by omega))
          have HI3 := Lib.hid hI3
          have HB3 := Lib.hid (HB2.out.trans hB3)
          clear hI3 hB3 hK3
          go_wp2_with fail
          go_roundw
          case rel => exact ⟨_, _, l, HREM, HI3, HIT3, HB3, HA2⟩
          case measure =>
            simp only [World.iterPos, HIT3.out]
            omega
        · have e1 : decide (127 ≤ z) = true := decide_eq_true (by omega)
          have e2 : 127 ≤ z := by omega
          have e3 : decide (z ≤ 159) = false := decide_eq_false (by omega)
          have e4 : ¬ (z ≤ 159) := by omega
          go_wp2_with (go_at_call 28; refine HWR.out.mono ?_; rintro e W3 ⟨rfl, hI3, hB3, hK3⟩; refine Hid.out ?_)
          refine Lib.hid ?_
          rw [HC.out] at hI3
          have HIT3 := Lib.hid (hK3.iter HIT2.out (by omega))
          have HI3 := Lib.hid hI3
          have HB3 := Lib.hid (HB2.out.trans hB3)
          clear hI3 hB3 hK3
          go_wp2_with fail
          go_roundw
          case rel => exact ⟨_, _, l, HREM, HI3, HIT3, HB3, HA2⟩
          case measure =>
            simp only [World.iterPos, HIT3.out]
            omega
end Go.Proofs.YtadehfoamdkcmaaDoor
