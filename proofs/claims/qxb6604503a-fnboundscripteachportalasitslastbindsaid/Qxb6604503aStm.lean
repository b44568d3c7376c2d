/-
  Seat b6604503a: the statements that ZZnewStatements builds, as they lie in memory: the box, the named ones' map, the portals' table; what keeps them and what turns them.
-/
import Derived.Test.Qxb6604503aWalkF
namespace Go.Proofs.Qxb6604503a
open Go.RowKit Go.Maps

/-- How a pointer to a whole block reads: by the block's number. -/
def ptrElem : Value → Option (DataW Unit × List MemPlace)
  | .pointer none => some (.nil, [])
  | .pointer (some a) => if a = ⟨a.block, 0, none⟩ then some (.lit (.int .u64 a.block), []) else none
  | _ => none

theorem ptrElem_mk (b : Nat) : ptrElem (.pointer (some ⟨b, 0, none⟩)) = some (.lit (.int .u64 b), []) := by simp [ptrElem]
theorem ptrElem_nil : ptrElem (.pointer none) = some (.nil, []) := rfl
theorem ptrElem_inv {v : Value} {b : Nat} {ps : List MemPlace} (h : ptrElem v = some (.lit (.int .u64 (b : Int)), ps)) : v = .pointer (some ⟨b, 0, none⟩) := by
  unfold ptrElem at h
  split at h
  · simp at h
  · rename_i a
    split at h
    · rename_i ha
      simp only [Option.some.injEq, Prod.mk.injEq, DataW.lit.injEq, Lit.int.injEq, true_and] at h
      have hb : a.block = b := by omega
      rw [ha, hb]
    · cases h
  · cases h
theorem ptrElem_nil_inv {v : Value} {ps : List MemPlace} (h : ptrElem v = some (.nil, ps)) : v = .pointer none := by
  unfold ptrElem at h
  split at h
  · rfl
  · split at h
    · simp at h
    · cases h
  · cases h

/-- The box of the statements; the box of one statement. -/
def cbox (bN : Nat) (ua : Bool) (un : ByteArray) (bP : Nat) : Array Value := #[.map (some bN), .int .u64 0, .int .u64 0, .slice none 0 0, .bool ua, .string un, .map (some bP)]
def sbox (a : Bool) (d : ByteArray) : Array Value := #[.string ⟨#[]⟩, .slice none 0 0, .bool a, .string d, .int .u64 0, .string ⟨#[]⟩, .int .u64 0]

/-- What the named map holds under s. -/
def NamedAt (w : World) (DN : DataW Unit) (r : Option (Bool × ByteArray)) (s : ByteArray) : Prop :=
  (r = none ∧ Maps.has DN (kS s) = false) ∨ ∃ q b, r = some q ∧ Maps.has DN (kS s) = true ∧ (∀ z, DN.atKey (kS s) z = .lit (.int .u64 (b : Nat))) ∧ w.heap[b]? = some (.cells (sbox q.1 q.2) 63 (0, 0))

structure Stm (w : World) (C bN bP : Nat) (ua : Bool) (un : ByteArray) (lk : ByteArray → Option (Bool × ByteArray)) (nN nP : Nat) (D : DataW Unit) : Prop where
  box : w.heap[C]? = some (.cells (cbox bN ua un bP) 60 (0, 0))
  named : ∃ DN, w.ownsMap Try.prog 9 ptrElem bN nN DN ∧ ∀ s, NamedAt w DN (lk s) s
  ports : w.ownsMap Try.prog 9 (plainElem Try.prog 9) bP nP D
  ne : bN ≠ bP

theorem Eff.block {w w' : World} {row : Option Nat} (h : Eff w w' row) {b : Nat} {cs : Array Value} {t : TypeId} {fr : Nat × Nat} (hb : w.heap[b]? = some (.cells cs t fr)) : w'.heap[b]? = some (.cells cs t fr) := by
  rw [h.grown.block b (Array.getElem?_eq_some_iff.1 hb).1 (fun e => by
    obtain ⟨es, c, hm⟩ := h.map _ e.symm
    rw [hm] at hb; simp at hb), hb]

theorem NamedAt.eff {w w' : World} {row : Option Nat} {DN : DataW Unit} {r : Option (Bool × ByteArray)} {s : ByteArray} (h : NamedAt w DN r s) (he : Eff w w' row) : NamedAt w' DN r s := by
  rcases h with h | ⟨q, b, h1, h2, h3, h4⟩
  · exact Or.inl h
  · exact Or.inr ⟨q, b, h1, h2, h3, he.block h4⟩

section
variable {w w' : World} {C bN bP : Nat} {ua : Bool} {un : ByteArray} {lk : ByteArray → Option (Bool × ByteArray)} {nN nP : Nat} {D : DataW Unit}

theorem Stm.eff {row : Option Nat} (h : Stm w C bN bP ua un lk nN nP D) (he : Eff w w' row) (h1 : some bN ≠ row) (h2 : some bP ≠ row) : Stm w' C bN bP ua un lk nN nP D := by
  obtain ⟨DN, hn, hs⟩ := h.named
  exact ⟨he.block h.box, ⟨DN, hn.kept he.grown h1, fun s => (hs s).eff he⟩, h.ports.kept he.grown h2, h.ne⟩

theorem Stm.c0 (h : Stm w C bN bP ua un lk nN nP D) : w.cell? ⟨C, 0, none⟩ = some (.map (some bN)) := cell_of_row _ _ 0 _ 60 (0, 0) h.box
theorem Stm.c4 (h : Stm w C bN bP ua un lk nN nP D) : w.cell? ⟨C, 4, none⟩ = some (.bool ua) := cell_of_row _ _ 4 _ 60 (0, 0) h.box
theorem Stm.c5 (h : Stm w C bN bP ua un lk nN nP D) : w.cell? ⟨C, 5, none⟩ = some (.string un) := cell_of_row _ _ 5 _ 60 (0, 0) h.box
theorem Stm.c6 (h : Stm w C bN bP ua un lk nN nP D) : w.cell? ⟨C, 6, none⟩ = some (.map (some bP)) := cell_of_row _ _ 6 _ 60 (0, 0) h.box

theorem ownsMap_isMap {R : Value → Option (DataW Unit × List MemPlace)} {b n : Nat} {E : DataW Unit} (h : w.ownsMap Try.prog 9 R b n E) : ∃ es c, w.heap[b]? = some (.map es c) := by
  obtain ⟨es, c, hb, _⟩ := h; exact ⟨es, c, hb⟩

/-- The portals' map has been turned, and nothing else. -/
theorem Stm.port {nP' : Nat} {D' : DataW Unit} (h : Stm w C bN bP ua un lk nN nP D) (hg : w.grownBy w' (some bP)) (hp : w'.ownsMap Try.prog 9 (plainElem Try.prog 9) bP nP' D') : Stm w' C bN bP ua un lk nN nP' D' := by
  have he : Eff w w' (some bP) := ⟨hg, fun r hr => by cases hr; exact ownsMap_isMap h.ports⟩
  obtain ⟨DN, hn, hs⟩ := h.named
  exact ⟨he.block h.box, ⟨DN, hn.kept hg (by simpa using h.ne), fun s => (hs s).eff he⟩, hp, h.ne⟩

/-- One statement more under its name: its box is laid, then the map is turned. -/
theorem Stm.name {q1 q3 : ByteArray} {q2 : Bool} (h : Stm w C bN bP ua un lk nN nP D) (h1 : q1.size ≤ maxLen) (hn : nN < maxLen) :
    ∃ w1, (Instr.mapUpdate 55 (.map (some bN)) (.string q1) (.pointer (some ⟨w.heap.size, 0, none⟩))).run Try.prog (w.alloc (.cells (sbox q2 q3) 63)).drew = .ok () w1 ∧
      Stm w1 C bN bP ua un (fun s => if q1 = s then some (q2, q3) else lk s) (nN + 1) nP D ∧ (w.alloc (.cells (sbox q2 q3) 63)).drew.grownBy w1 (some bN) := by
  have he0 : Eff w (w.alloc (.cells (sbox q2 q3) 63)).drew none := ⟨⟨rfl, rfl, rfl, by show w.heap.size ≤ (w.alloc _).heap.size; simp, fun k hk _ => Below.heap_alloc w _ k hk⟩, fun r hr => by cases hr⟩
  have h' := h.eff he0 (by simp) (by simp)
  obtain ⟨DN, hnm, hs⟩ := h'.named
  obtain ⟨w1, hrun, hown1, hg1⟩ := hnm.update law Try.underlying55 hn (hS h1) (ptrElem_mk w.heap.size)
  have he1 : Eff (w.alloc (.cells (sbox q2 q3) 63)).drew w1 (some bN) := ⟨hg1, fun r hr => by cases hr; exact ownsMap_isMap hnm⟩
  refine ⟨w1, hrun, ⟨he1.block h'.box, ⟨_, hown1, fun s => ?_⟩, h'.ports.kept hg1 (by simpa using h.ne.symm), h.ne⟩, hg1⟩
  by_cases e : q1 = s
  · subst e
    rw [if_pos rfl]
    refine Or.inr ⟨_, w.heap.size, rfl, has_put_same hnm.isMap (kS_key _) _, fun z => atKey_put_same hnm.isMap (kS_key _) _ z, he1.block (heap_alloc_new w _)⟩
  · have hne : kS s ≠ kS q1 := fun e' => e (kS_inj e').symm
    rw [if_neg e]
    rcases hs s with ⟨a1, a2⟩ | ⟨q, b, a1, a2, a3, a4⟩
    · exact Or.inl ⟨a1, by rw [has_put_other hne]; exact a2⟩
    · exact Or.inr ⟨q, b, a1, by rw [has_put_other hne]; exact a2, fun z => by rw [atKey_put_other hne]; exact a3 z, he1.block a4⟩

/-- What the look-up of a name gives. -/
theorem Stm.look (h : Stm w C bN bP ua un lk nN nP D) {s : ByteArray} (hs : s.size ≤ maxLen) :
    (lk s = none ∧ (Instr.lookup 55 (.map (some bN)) (.string s) true).run Try.prog w = .ok (.tuple #[.pointer none, .bool false]) w) ∨
    ∃ q b, lk s = some q ∧ (Instr.lookup 55 (.map (some bN)) (.string s) true).run Try.prog w = .ok (.tuple #[.pointer (some ⟨b, 0, none⟩), .bool true]) w ∧ w.heap[b]? = some (.cells (sbox q.1 q.2) 63 (0, 0)) := by
  obtain ⟨DN, hn, hall⟩ := h.named
  have hz : (zeroValue 61).run Try.prog w = .ok (.pointer none) w := by kernel_rfl
  obtain ⟨v, ps, hrun, hv⟩ := hn.look_ok law Try.underlying55 hz ptrElem_nil (hS hs)
  rcases hall s with ⟨a1, a2⟩ | ⟨q, b, a1, a2, a3, a4⟩
  · rw [atKey_of_not_has a2] at hv
    rw [ptrElem_nil_inv hv, a2] at hrun
    exact Or.inl ⟨a1, hrun⟩
  · rw [a3] at hv
    rw [ptrElem_inv hv, a2] at hrun
    exact Or.inr ⟨q, b, a1, hrun, a4⟩

end
end Go.Proofs.Qxb6604503a
