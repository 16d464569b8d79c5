/- What a call's arguments are checked for: the contract of checkArguments. -/
import Derived.Test.YtlbgmcpjdfoalaaArD
import Derived.Maps.OwnSet
namespace Go.Proofs.Ytlbgmcpjdfoalaa
open Go.RowKit

theorem stack_any (g : Nat) (w : World) (h1 : w.cell? ⟨g, 7, none⟩ = some (.slice none 0 0)) (h2 : w.cell? ⟨g, 5, none⟩ = some (.pointer none)) :
    Calls Try.prog 46 #[.pointer (some ⟨g, 0, none⟩)] w fun e w' => e = .returned (.slice none 0 0) ∧ w = w' := by
  go_enter Try.func46, Try.ntmps46
  go_wp2
  refine wp_loop_rounds 1 ?_
  rw [rounds_succ]
  go_wp2
  go_ret
  exact ⟨rfl, rfl⟩
theorem mkErr_any (s : ByteArray) (w : World) :
    Calls Try.prog 45 #[.string s, .slice none 0 0] w fun e w' => e = .returned (.agg #[.string s, .slice none 0 0]) ∧ Below w.heap.size w w' := by
  go_enter Try.func45, Try.ntmps45
  go_wp2
  refine bodyPost_ret (v := .agg #[.string s, .slice none 0 0]) (by simp [results, Try.results45, go_sem]) rfl ?_
  exact ⟨rfl, (Below.refl _ _).alloc (Nat.le_refl _) _⟩
theorem errI_any (s : ByteArray) (g : Nat) (w : World) (ci : w.cell? ⟨g, 7, none⟩ = some (.slice none 0 0)) (cl : w.cell? ⟨g, 5, none⟩ = some (.pointer none)) :
    Calls Try.prog 40 #[.pointer (some ⟨g, 0, none⟩), .string s] w fun e w' => (∃ u, e = .returned (.iface 128 u)) ∧ Below w.heap.size w w' := by
  go_enter Try.func40, Try.ntmps40
  go_wp2_with (first
    | (go_at_call 46; refine (stack_any g _ ci cl).mono ?_; rintro e w' ⟨rfl, rfl⟩)
    | (go_at_call 45; refine (mkErr_any _ _).mono ?_; rintro e w' ⟨rfl, hb⟩))
  go_ret
  exact ⟨⟨_, rfl⟩, hb.alloc hb.size _⟩

/-- Keys of names. -/
def kl (s : ByteArray) : Lit := .string s.data.toList
def keys (ss : List ByteArray) : List Lit := ss.map kl
def tt : DataW Unit := .lit (.bool true)
theorem kl_inj {a b : ByteArray} (h : kl a = kl b) : a = b := by
  unfold kl at h
  injection h with h
  have h2 : a.data = b.data := by
    have := congrArg List.toArray h
    simpa using this
  cases a; cases b
  simpa using h2
theorem kl_key (s : ByteArray) : WideAt.IsKeyLit (kl s) := by simp [kl, WideAt.IsKeyLit]
theorem has_keys (ss : List ByteArray) (q : ByteArray) : Maps.has (Maps.setOf tt (keys ss)) (kl q) = true ↔ q ∈ ss := by
  rw [Maps.has_setOf tt (kl q) (keys ss) (fun x hx => by obtain ⟨s, _, rfl⟩ := List.mem_map.1 hx; exact kl_key s)]
  rw [List.any_eq_true]
  constructor
  · rintro ⟨x, hx, hs⟩
    obtain ⟨s, hs', rfl⟩ := List.mem_map.1 hx
    have := (WideAt.sameKey_iff (kl_key q)).1 hs
    rw [← kl_inj this]
    exact hs'
  · intro h
    exact ⟨kl q, List.mem_map.2 ⟨q, h, rfl⟩, (WideAt.sameKey_iff (kl_key q)).2 rfl⟩
theorem put_keys (ss : List ByteArray) (q : ByteArray) : (Maps.setOf tt (keys ss)).put (kl q) tt = Maps.setOf tt (keys (ss ++ [q])) := by
  rw [show keys (ss ++ [q]) = keys ss ++ [kl q] by simp [keys], Maps.setOf_snoc]

theorem par_at {w : World} {B : Nat} {A : Option Addr} {n c k : Nat} {ps : List ByteArray} {os : List Bool} {L : List (Value × Value)} (h : Row2 w B (.slice A n c) L) (hp : ParL ps os L) (hk : k < ps.length) :
    ∃ b off d o, A = some ⟨b, off, none⟩ ∧ b < B ∧ w.cell? ⟨b, off + k * 2, none⟩ = some d ∧ w.cell? ⟨b, off + k * 2 + 1, none⟩ = some (.string (ps[k]'hk)) ∧ os[k]? = some o ∧ DefOk o d := by
  have hkl : k < L.length := by rw [hp.1]; exact hk
  obtain ⟨b, off, hA, hB, c1, c2⟩ := h.at_ hkl
  obtain ⟨s, o, h1, h2, h3, h4⟩ := hp.2 k _ (List.getElem?_eq_getElem hkl)
  rw [List.getElem?_eq_getElem hk] at h1
  injection h1 with h1
  exact ⟨b, off, _, o, hA, hB, c1, by rw [c2, h3, h1], h2, h4⟩
theorem nam_at {w : World} {B : Nat} {A : Option Addr} {n c k : Nat} {ns : List ByteArray} {L : List (Value × Value)} (h : Row2 w B (.slice A n c) L) (hp : NamL ns L) (hk : k < ns.length) :
    ∃ b off g, A = some ⟨b, off, none⟩ ∧ b < B ∧ w.cell? ⟨b, off + k * 2, none⟩ = some (.pointer g) ∧ w.cell? ⟨b, off + k * 2 + 1, none⟩ = some (.string (ns[k]'hk)) := by
  have hkl : k < L.length := by rw [hp.1]; exact hk
  obtain ⟨b, off, hA, hB, c1, c2⟩ := h.at_ hkl
  obtain ⟨s, g, h1, h2, h3⟩ := hp.2 k _ (List.getElem?_eq_getElem hkl)
  rw [List.getElem?_eq_getElem hk] at h1
  injection h1 with h1
  exact ⟨b, off, g, hA, hB, by rw [c1, h2], by rw [c2, h3, h1]⟩

/-- The arguments are right. -/
def NamOk (ps : List ByteArray) (n : Nat) (ns : List ByteArray) (j : Nat) : Prop := ∃ h : j < ns.length, ns[j] ∉ ps.take n ++ ns.take j ∧ ns[j] ∈ ps
def GotOk (ps : List ByteArray) (os : List Bool) (n : Nat) (ns : List ByteArray) (i : Nat) : Prop := ∃ h : i < ps.length, ps[i] ∈ ps.take n ++ ns ∨ os[i]? = some true
def ArgsOk (ps : List ByteArray) (os : List Bool) (n : Nat) (ns : List ByteArray) : Prop := n ≤ ps.length ∧ (∀ j, j < ns.length → NamOk ps n ns j) ∧ ∀ i, i < ps.length → GotOk ps os n ns i

def CheckP (ps : List ByteArray) (os : List Bool) (n : Nat) (ns : List ByteArray) (w : World) (e : Ending) (w' : World) : Prop :=
  ∃ r, e = .returned r ∧ Below w.heap.size w w' ∧ ((r = .nilIface ∧ ArgsOk ps os n ns) ∨ (∃ u, r = .iface 128 u) ∧ ¬ArgsOk ps os n ns)
theorem CheckP.bad {ps : List ByteArray} {os : List Bool} {n : Nat} {ns : List ByteArray} {w w' : World} {u : Value} (h : Below w.heap.size w w') (hn : ¬ArgsOk ps os n ns) : CheckP ps os n ns w (.returned (.iface 128 u)) w' := ⟨_, rfl, h, .inr ⟨⟨u, rfl⟩, hn⟩⟩

theorem mkmap (w : World) (k : IntKind) (n : Int) : (Instr.makeMap 100 (some (.int k n))).run Try.prog w = .ok (.map (some w.heap.size)) (w.alloc (.map #[] 0)) := by
  simp [Instr.makeMap, run_underlying Try.underlying100, asInt, asIntOf, Result.andThen]

end Go.Proofs.Ytlbgmcpjdfoalaa
