/- Arguments in memory: the contract of arguments. -/
import Derived.Test.YtlbgmcpjdfoalaaArC
import Derived.Deep.RegionLaw
import Derived.BigRegion
namespace Go.Proofs.Ytlbgmcpjdfoalaa
open Go.RowKit

theorem thk_info : (Try.prog.info? 106).map (fun i => (i.zero, i.size, i.bytes)) = some (some (.pointer none), 1, 8) := by kernel_rfl
theorem nam_info : (Try.prog.info? 108).map (fun i => (i.zero, i.size, i.bytes)) = some (some (.agg #[.pointer none, .string ⟨#[]⟩]), 2, 24) := by kernel_rfl

def flW (n : Int) : Nat := floatOfInt .f64 n
theorem intToV_any (n : Int) (w : World) : Calls Try.prog 42 #[.int .i64 n] w fun e w' =>
    e = .returned (.pointer (some ⟨w.heap.size, 0, none⟩)) ∧ w' = w.alloc (.cells #[.float .f64 (flW n)] 152) := by
  have hcr : ∀ w n, (Go.convert 3 137 (.int .i64 n)).run Try.prog w = .ok (.float .f64 (flW n)) w := fun w n => by kernel_rfl
  have hmk : ∀ (b : Nat) (w : World), Calls Try.prog 47 #[.float .f64 b] w fun e w' => e = .returned (.pointer (some ⟨w.heap.size, 0, none⟩)) ∧ w' = w.alloc (.cells #[.float .f64 b] 152) := by
    intro b w
    go_enter Try.func47, Try.ntmps47
    go_wp2
    go_ret
    exact ⟨rfl, rfl⟩
  have HM := Lib.hid hmk
  clear hmk
  go_enter Try.func42, Try.ntmps42
  go_wp2_with (go_at_call 47; refine (HM.out _ _).mono ?_; rintro e w' ⟨rfl, rfl⟩)
  go_ret
  exact ⟨rfl, rfl⟩
theorem ready_any (ty : TypeId) (p : Value) (w : World) : Calls Try.prog 41 #[.iface ty p] w fun e w' =>
    e = .returned (.pointer (some ⟨w.heap.size, 0, none⟩)) ∧ w' = w.alloc (.cells #[.pointer none, .nilIface, .iface ty p, .nilIface] 135) := by
  go_enter Try.func41, Try.ntmps41
  go_wp2
  go_ret
  exact ⟨rfl, rfl⟩

theorem heap_cell {w : World} {g : Nat} {C : Array Value} {T : TypeId} {fr : Nat × Nat} (h : w.heap[g]? = some (.cells C T fr)) (j : Nat) : w.cell? ⟨g, j, none⟩ = C[j]? := by
  unfold World.cell?; rw [h]; rfl
theorem heap_free {w : World} {g : Nat} {C : Array Value} {T : TypeId} (h : w.heap[g]? = some (.cells C T (0, 0))) (j : Nat) : w.frozen? ⟨g, j, none⟩ = false := by
  unfold World.frozen?; rw [h]; simp
theorem heap_set {w : World} {g : Nat} {C : Array Value} {T : TypeId} {fr : Nat × Nat} (h : w.heap[g]? = some (.cells C T fr)) (k : Nat) (v : Value) : (w.setCell ⟨g, k, none⟩ v).heap[g]? = some (.cells (C.setIfInBounds k v) T fr) := by
  unfold World.setCell
  rw [Array.getElem?_modify, if_pos rfl, h]
  simp
theorem heap_set_other {w : World} {g b : Nat} (h : b ≠ g) (k : Nat) (v : Value) : (w.setCell ⟨g, k, none⟩ v).heap[b]? = w.heap[b]? := by
  unfold World.setCell
  rw [Array.getElem?_modify, if_neg (Ne.symm h)]
theorem heap_after {w : World} {g : Nat} {x : Obj} (h : w.heap[g]? = some x) (o : Obj) : (w.alloc o).heap[g]? = some x :=
  (((Below.refl w.heap.size w).alloc (Nat.le_refl _) o).block _ (Array.getElem?_eq_some_iff.1 h).1).trans h

theorem three_below (w : World) (o1 o2 o3 : Obj) : Below w.heap.size w (((w.alloc o1).alloc o2).alloc o3) := (((Below.refl _ _).alloc (Nat.le_refl _) _).alloc (by simp) _).alloc (by simp; omega) _
theorem three_drew (w : World) (o1 o2 o3 : Obj) : Below w.heap.size w (((w.alloc o1).alloc o2).alloc o3).drew := (three_below w o1 o2 o3).drew

/-- Named arguments: a pointer and a name each. -/
def NamL (ns : List ByteArray) (L : List (Value × Value)) : Prop := L.length = ns.length ∧ ∀ (j : Nat) (p : Value × Value), L[j]? = some p → ∃ s g, ns[j]? = some s ∧ p.1 = .pointer g ∧ p.2 = .string s
theorem NamL.nil (ns : List ByteArray) : NamL (ns.take 0) [] := ⟨rfl, fun j p h => by simp at h⟩
theorem NamL.step {ns : List ByteArray} {L : List (Value × Value)} {k : Nat} (h : NamL (ns.take k) L) (hk : k < ns.length) (g : Option Addr) : NamL (ns.take (k + 1)) (L ++ [(.pointer g, .string (ns[k]'hk))]) := by
  have hL : L.length = k := by have := h.1; simp at this; omega
  refine ⟨by simp; omega, fun j p hp => ?_⟩
  rcases Nat.lt_or_ge j k with hj | hj
  · rw [List.getElem?_append_left (by omega)] at hp
    obtain ⟨s, g', h1, h2, h3⟩ := h.2 j p hp
    refine ⟨s, g', ?_, h2, h3⟩
    rw [List.getElem?_take_of_lt (by omega)]
    rw [List.getElem?_take_of_lt hj] at h1
    exact h1
  · have hjk : j = k := by
      have := (List.getElem?_eq_some_iff.1 hp).1
      simp at this
      omega
    subst hjk
    rw [List.getElem?_append_right (by omega), hL, Nat.sub_self] at hp
    simp at hp
    subst hp
    exact ⟨ns[j], g, by rw [List.getElem?_take_of_lt (by omega), List.getElem?_eq_getElem hk], rfl, rfl⟩

def ArgP (n : Nat) (ns : List ByteArray) (w : World) (e : Ending) (w' : World) : Prop := ∃ A c v L, e = .returned (.agg #[.slice A n c, v, .bool false]) ∧ NamL ns L ∧ Row2 w' w'.heap.size v L ∧ Below w.heap.size w w'

set_option maxRecDepth 100000 in
set_option maxHeartbeats 2000000 in
theorem arguments_any (n : Nat) (cv : Value) (ns : List ByteArray) (w : World) (hp : RowV w w.heap.size cv (strs ns)) (hn : n ≤ 200) (hl : ns.length ≤ 200) :
    Calls Try.prog 33 #[.int .i64 n, cv] w (ArgP n ns w) := by
  obtain ⟨i0, hi0, hz0, hz1, hz2⟩ := info_parts thk_info
  obtain ⟨j0, hj0, jz0, jz1, jz2⟩ := info_parts nam_info
  obtain ⟨A, c, rfl⟩ := hp.form
  have HP := Lib.hid hp
  clear hp
  go_enter Try.func33, Try.ntmps33
  go_wp2
  have hB0 : Below w.heap.size w ((w.alloc (Obj.cells #[Value.slice none 0 0, Value.slice none 0 0, Value.bool false] 91)).alloc (Obj.cells #[Value.slice none 0 0, Value.slice none 0 0, Value.bool false] 91)) := ((Below.refl _ _).alloc (Nat.le_refl _) _).alloc (by simp) _
  go_loopw [10] (fun i wr => ∃ (k : Nat) (A1 : Option Addr) (c1 : Nat) (ts : List Value), k ≤ n ∧ i = .int .i64 k ∧ Hid (wr.ownsRow (w.heap.size + 2) 106 1 (.slice A1 k c1) k ts) ∧
    Hid (wr.heap[w.heap.size]? = some (.cells #[Value.slice none 0 0, Value.slice none 0 0, Value.bool false] 91)) ∧
    Hid (wr.heap[w.heap.size + 1]? = some (.cells #[Value.slice A1 k c1, Value.slice none 0 0, Value.bool false] 91)) ∧ Below w.heap.size w wr) (fun i _ => n - (intOf i).toNat)
  case atStart =>
    refine ⟨0, none, 0, [], Nat.zero_le _, rfl, Lib.hid (World.ownsRow_nil _ _ _ _), Lib.hid (heap_after (heap_alloc_new w _) _), Lib.hid ?_, hB0⟩
    have := heap_alloc_new (w.alloc (Obj.cells #[Value.slice none 0 0, Value.slice none 0 0, Value.bool false] 91)) (Obj.cells #[Value.slice none 0 0, Value.slice none 0 0, Value.bool false] 91)
    rwa [World.size_alloc] at this
  case round =>
    obtain ⟨k, A1, c1, ts, hk, rfl, HO, HR, HG, hb⟩ := hrel
    have hgl := (Array.getElem?_eq_some_iff.1 HG.out).1
    have hrl := (Array.getElem?_eq_some_iff.1 HR.out).1
    have hc0 : wr.cell? ⟨w.heap.size + 1, 0, none⟩ = some (.slice A1 k c1) := by rw [heap_cell HG.out]; rfl
    have hf0 := heap_free HG.out 0
    have hsz := hb.size
    have hne : some (w.heap.size + 1) ≠ (Value.slice A1 k c1).ownBlock := by intro h; have := (HO.out.lt _ h.symm).1; omega
    have hne0 : some w.heap.size ≠ (Value.slice A1 k c1).ownBlock := by intro h; have := (HO.out.lt _ h.symm).1; omega
    have hc1 : ∀ o1, (wr.alloc o1).cell? ⟨w.heap.size + 1, 0, none⟩ = some (.slice A1 k c1) := fun o1 => (((Below.refl wr.heap.size wr).alloc (Nat.le_refl _) o1).cell (p := ⟨w.heap.size + 1, 0, none⟩) hgl).trans hc0
    have hc2 : ∀ o1 o2, ((wr.alloc o1).alloc o2).cell? ⟨w.heap.size + 1, 0, none⟩ = some (.slice A1 k c1) := fun o1 o2 => ((((Below.refl wr.heap.size wr).alloc (Nat.le_refl _) o1).alloc (by simp) o2).cell (p := ⟨w.heap.size + 1, 0, none⟩) hgl).trans hc0
    have hc3 : ∀ o1 o2 o3, (((wr.alloc o1).alloc o2).alloc o3).cell? ⟨w.heap.size + 1, 0, none⟩ = some (.slice A1 k c1) := fun o1 o2 o3 => ((three_below wr o1 o2 o3).cell (p := ⟨w.heap.size + 1, 0, none⟩) hgl).trans hc0
    by_cases hlt : k < n
    · have hlt' : (k : Int) < (n : Int) := by omega
      go_wp2_with fail
      go_region_law (first
        | (refine step_append_rowV _ (by rfl) (.tmp 14) (.tmp 19) _ (by rfl) (w.heap.size + 2) 106 i0 _ 1 8 Try.underlying88 hi0 hz0 hz1 hz2 rfl (by omega) (.slice A1 k c1) k ts (by rfl) (by exact (((HO.out.alloc _).alloc _).alloc _)) (some ⟨wr.heap.size + 1 + 1, 0, none⟩) 1 1 [.pointer (some ⟨wr.heap.size + 1, 0, none⟩)] (by rfl) rfl (fun _ => ⟨_, rfl, news_at (by simp)⟩) (by simp [Value.oneCell']) (by unfold maxLen; omega) (by omega) (by simp; omega) ?_; intro A5 c5 w5 hap; have hfz : w5.frozen? ⟨w.heap.size + 1, 0, none⟩ = false := ((World.frozen?_of_block (a := ⟨w.heap.size + 1, 0, none⟩) (hap.grown.block (w.heap.size + 1) (by simp; omega) hne)).trans (((three_below wr _ _ _).frozen (p := ⟨w.heap.size + 1, 0, none⟩) hgl).trans hf0)); have hcz : w5.cell? ⟨w.heap.size + 1, 0, none⟩ = some (.slice A1 k c1) := hap.grown.cell (((three_below wr _ _ _).cell (p := ⟨w.heap.size + 1, 0, none⟩) hgl).trans hc0) hne)
        | (go_simp; go_at_call 42; refine (intToV_any _ _).mono ?_; rintro e w' ⟨rfl, rfl⟩)
        | (go_simp; go_at_call 41; refine (ready_any _ _ _).mono ?_; rintro e w' ⟨rfl, rfl⟩))
      all_goals
        have hb5 : Below w.heap.size w w5 := (hb.trans ((three_drew wr _ _ _).mono hsz)).grown hap.grown (by simp; omega) (fun g hg => by have := (HO.out.lt g hg).1; omega)
        have hR5 := (hap.grown.block w.heap.size (by simp; omega) hne0).trans (((three_drew wr _ _ _).block _ hrl).trans HR.out)
        have hG5 := (hap.grown.block (w.heap.size + 1) (by simp; omega) hne).trans (((three_drew wr _ _ _).block _ hgl).trans HG.out)
        have HOn := Lib.hid (ownsRow_setCell_below hap.own (a := ⟨w.heap.size + 1, 0, none⟩) (by simp) (.slice A5 (k + 1) c5))
        have HRn := Lib.hid ((heap_set_other (g := w.heap.size + 1) (b := w.heap.size) (by omega) 0 (.slice A5 (k + 1) c5)).trans hR5)
        have HGn := Lib.hid (heap_set hG5 0 (.slice A5 (k + 1) c5))
        have HBn := Lib.hid (hb5.setCell (p := ⟨w.heap.size + 1, 0, none⟩) (by simp) (.slice A5 (k + 1) c5))
        clear hb5 hR5 hG5 hap
        go_wp2_with fail
        go_roundw
        case rel => exact ⟨k + 1, A5, c5, _, by omega, by go_num, HOn, HRn, HGn, HBn.out⟩
        case measure => simp [intOf]; omega
    · obtain rfl : k = n := by omega
      have HOw : wr.ownsRow (w.heap.size + 2) 108 2 (.slice none 0 0) 0 (flat2 []) := World.ownsRow_nil _ _ _ _
      have HB := Lib.hid hb
      clear hc1 hc2 hc3 hc0 hf0 hgl hrl hsz hne hne0 hb HO
      go_wp2_with fail
      go_loopw [25] (fun i w2 => ∃ (j : Nat) (A2 : Option Addr) (c2 : Nat) (L : List (Value × Value)), j ≤ ns.length ∧ i = .int .i64 j ∧ Hid (NamL (ns.take j) L) ∧ Hid (w2.ownsRow (w.heap.size + 2) 108 2 (.slice A2 j c2) j (flat2 L)) ∧ L.length = j ∧
        Hid (w2.heap[w.heap.size]? = some (.cells #[Value.slice none 0 0, Value.slice none 0 0, Value.bool false] 91)) ∧
        Hid (w2.heap[w.heap.size + 1]? = some (.cells #[Value.slice A1 k c1, Value.slice A2 j c2, Value.bool false] 91)) ∧ Below w.heap.size w w2) (fun i _ => ns.length - (intOf i).toNat)
      case atStart => exact ⟨0, none, 0, [], Nat.zero_le _, rfl, Lib.hid (NamL.nil _), Lib.hid HOw, rfl, HR, HG, HB.out⟩
      case round =>
        obtain ⟨j, A2, c2, L, hj, rfl, HN, HO, hLj, HR, HG, hb⟩ := hrel
        have hgl := (Array.getElem?_eq_some_iff.1 HG.out).1
        have hrl := (Array.getElem?_eq_some_iff.1 HR.out).1
        have hsz := hb.size
        have hc0 : wr.cell? ⟨w.heap.size + 1, 1, none⟩ = some (.slice A2 j c2) := by rw [heap_cell HG.out]; rfl
        have hf0 := heap_free HG.out 1
        have hne : some (w.heap.size + 1) ≠ (Value.slice A2 j c2).ownBlock := by intro h; have := (HO.out.lt _ h.symm).1; omega
        have hne0 : some w.heap.size ≠ (Value.slice A2 j c2).ownBlock := by intro h; have := (HO.out.lt _ h.symm).1; omega
        by_cases hlt : j < ns.length
        · have hlt' : (j : Int) < (ns.length : Int) := by omega
          obtain ⟨b, off, hA, hbB, hcell⟩ := (HP.out.below hb (Nat.le_refl _)).at_ hlt
          subst hA
          have hc1 : ∀ o1, (wr.alloc o1).cell? ⟨w.heap.size + 1, 1, none⟩ = some (.slice A2 j c2) := fun o1 => (((Below.refl wr.heap.size wr).alloc (Nat.le_refl _) o1).cell (p := ⟨w.heap.size + 1, 1, none⟩) hgl).trans hc0
          have hc2 : ∀ o1 o2, ((wr.alloc o1).alloc o2).cell? ⟨w.heap.size + 1, 1, none⟩ = some (.slice A2 j c2) := fun o1 o2 => ((((Below.refl wr.heap.size wr).alloc (Nat.le_refl _) o1).alloc (by simp) o2).cell (p := ⟨w.heap.size + 1, 1, none⟩) hgl).trans hc0
          have hc3 : ∀ o1 o2 o3, (((wr.alloc o1).alloc o2).alloc o3).cell? ⟨w.heap.size + 1, 1, none⟩ = some (.slice A2 j c2) := fun o1 o2 o3 => ((three_below wr o1 o2 o3).cell (p := ⟨w.heap.size + 1, 1, none⟩) hgl).trans hc0
          go_wp2_with fail
          go_region_law (first
            | (refine step_append_rowV _ (by rfl) (.tmp 31) (.tmp 40) _ (by rfl) (w.heap.size + 2) 108 j0 _ 2 24 Try.underlying89 hj0 jz0 jz1 jz2 rfl (by omega) (.slice A2 j c2) j (flat2 L) (by rfl) (by exact (((HO.out.alloc _).alloc _).alloc _)) (some ⟨wr.heap.size + 1 + 1, 0, none⟩) 1 1 [.pointer (some ⟨wr.heap.size + 1, 0, none⟩), .string ns[j]] (by rfl) rfl (fun _ => ⟨_, rfl, news_at (by simp)⟩) (by simp [Value.oneCell']) (by unfold maxLen; omega) (by omega) (by simp; omega) ?_; intro A5 c5 w5 hap; have hfz : w5.frozen? ⟨w.heap.size + 1, 1, none⟩ = false := ((World.frozen?_of_block (a := ⟨w.heap.size + 1, 1, none⟩) (hap.grown.block (w.heap.size + 1) (by simp; omega) hne)).trans (((three_below wr _ _ _).frozen (p := ⟨w.heap.size + 1, 1, none⟩) hgl).trans hf0)); have hcz : w5.cell? ⟨w.heap.size + 1, 1, none⟩ = some (.slice A2 j c2) := hap.grown.cell (((three_below wr _ _ _).cell (p := ⟨w.heap.size + 1, 1, none⟩) hgl).trans hc0) hne)
            | (go_simp; go_at_call 42; refine (intToV_any _ _).mono ?_; rintro e w' ⟨rfl, rfl⟩)
            | (go_simp; go_at_call 41; refine (ready_any _ _ _).mono ?_; rintro e w' ⟨rfl, rfl⟩))
          all_goals
            have hb5 : Below w.heap.size w w5 := (hb.trans ((three_drew wr _ _ _).mono hsz)).grown hap.grown (by simp; omega) (fun g hg => by have := (HO.out.lt g hg).1; omega)
            have hR5 := (hap.grown.block w.heap.size (by simp; omega) hne0).trans (((three_drew wr _ _ _).block _ hrl).trans HR.out)
            have hG5 := (hap.grown.block (w.heap.size + 1) (by simp; omega) hne).trans (((three_drew wr _ _ _).block _ hgl).trans HG.out)
            have hown := hap.own
            rw [show flat2 L ++ [Value.pointer (some ⟨wr.heap.size + 1, 0, none⟩), Value.string ns[j]] = flat2 (L ++ [(Value.pointer (some ⟨wr.heap.size + 1, 0, none⟩), Value.string ns[j])]) from (flat2_snoc L (Value.pointer (some ⟨wr.heap.size + 1, 0, none⟩), Value.string ns[j])).symm] at hown
            have HOn := Lib.hid (ownsRow_setCell_below hown (a := ⟨w.heap.size + 1, 1, none⟩) (by simp) (.slice A5 (j + 1) c5))
            have HRn := Lib.hid ((heap_set_other (g := w.heap.size + 1) (b := w.heap.size) (by omega) 1 (.slice A5 (j + 1) c5)).trans hR5)
            have HGn := Lib.hid (heap_set hG5 1 (.slice A5 (j + 1) c5))
            have HBn := Lib.hid (hb5.setCell (p := ⟨w.heap.size + 1, 1, none⟩) (by simp) (.slice A5 (j + 1) c5))
            have HNn := Lib.hid (HN.out.step hlt (some ⟨wr.heap.size + 1, 0, none⟩))
            clear hb5 hR5 hG5 hap hown
            go_wp2_with fail
            go_roundw
            case rel => exact ⟨j + 1, A5, c5, _, by omega, by go_num, HNn, HOn, by simp [hLj], HRn, HGn, HBn.out⟩
            case measure => simp [intOf]; omega
        · obtain rfl : j = ns.length := by omega
          have hN := HN.out
          rw [List.take_length] at hN
          have HNN := Lib.hid hN
          have HRow := Lib.hid (own_row2 (L := L) (by rw [hLj]; exact HO.out))
          have g0 : wr.cell? ⟨w.heap.size + 1, 0, none⟩ = some (.slice A1 k c1) := by rw [heap_cell HG.out]; rfl
          have g2 : wr.cell? ⟨w.heap.size + 1, 2, none⟩ = some (.bool false) := by rw [heap_cell HG.out]; rfl
          have r0 : wr.cell? ⟨w.heap.size, 0, none⟩ = some (.slice none 0 0) := by rw [heap_cell HR.out]; rfl
          have r1 : wr.cell? ⟨w.heap.size, 1, none⟩ = some (.slice none 0 0) := by rw [heap_cell HR.out]; rfl
          have r2 : wr.cell? ⟨w.heap.size, 2, none⟩ = some (.bool false) := by rw [heap_cell HR.out]; rfl
          have rf0 := heap_free HR.out 0
          have rf1 := heap_free HR.out 1
          have rf2 := heap_free HR.out 2
          clear hN
          have hown3 := ownsRow_setCell_below (ownsRow_setCell_below (ownsRow_setCell_below HO.out (a := ⟨w.heap.size, 0, none⟩) (by simp) (.slice A1 k c1)) (a := ⟨w.heap.size, 1, none⟩) (by simp) (.slice A2 ns.length c2)) (a := ⟨w.heap.size, 2, none⟩) (by simp) (.bool false)
          have hrow3 := own_row2 (L := L) (by rw [hLj]; exact hown3)
          have hR3 := heap_set (heap_set (heap_set HR.out 0 (.slice A1 k c1)) 1 (.slice A2 ns.length c2)) 2 (.bool false)
          have hb3 := ((hb.setCell (p := ⟨w.heap.size, 0, none⟩) (Nat.le_refl _) (.slice A1 k c1)).setCell (p := ⟨w.heap.size, 1, none⟩) (Nat.le_refl _) (.slice A2 ns.length c2)).setCell (p := ⟨w.heap.size, 2, none⟩) (Nat.le_refl _) (.bool false)
          have HROW3 := Lib.hid hrow3
          have HR3 := Lib.hid hR3
          have HB3 := Lib.hid hb3
          clear hown3 hrow3 hR3 hb3 hb
          go_wp2_with fail
          generalize ((wr.setCell ⟨w.heap.size, 0, none⟩ (.slice A1 k c1)).setCell ⟨w.heap.size, 1, none⟩ (.slice A2 ns.length c2)).setCell ⟨w.heap.size, 2, none⟩ (.bool false) = W3 at HROW3 HR3 HB3 ⊢
          have c0 : W3.cell? ⟨w.heap.size, 0, none⟩ = some (.slice A1 k c1) := by rw [heap_cell HR3.out]; rfl
          have c1' : W3.cell? ⟨w.heap.size, 1, none⟩ = some (.slice A2 ns.length c2) := by rw [heap_cell HR3.out]; rfl
          have c2' : W3.cell? ⟨w.heap.size, 2, none⟩ = some (.bool false) := by rw [heap_cell HR3.out]; rfl
          refine bodyPost_ret (v := .agg #[.slice A1 k c1, .slice A2 ns.length c2, .bool false]) (by simp [results, Try.results33, go_sem, c0, c1', c2']) rfl ?_
          exact ⟨A1, c1, _, L, rfl, HNN.out, HROW3.out, HB3.out⟩
end Go.Proofs.Ytlbgmcpjdfoalaa
