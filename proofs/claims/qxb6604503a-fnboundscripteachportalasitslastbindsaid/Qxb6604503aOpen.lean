/-
  Seat b6604503a: a slice of strings or bools that came in, opened.
-/
import Derived.Test.Qxb6604503aRows
import Derived.Test.Qxb6604503aWalkI
import Derived.WalkKit
import Derived.ProofKit
import Derived.OpenShut
import Derived.ShutString
import Derived.ChangeOld
import Derived.Below
import Derived.SliceStrings
import Derived.Deep.Grids
namespace Go.Proofs.Qxb6604503a
open Go.ChangeShapes Go.WideShapes Go.ChangeAt Go.RowKit
open Go.ChangeMaps (open_string shut_string)

theorem cells9 : Try.prog.cellsOf 9 = 1 := by kernel_rfl
theorem cells4 : Try.prog.cellsOf 4 = 1 := by kernel_rfl

section
variable {H : Type} {enc : TypeId × Value → H} {W : World}

theorem strings_at {a : Addr} {ss : List ByteArray} (h : ∀ i, i < ss.length → W.cell? (a.add i) = some (.string (ss.getD i ByteArray.empty))) (len : Nat) (hl : len ≤ ss.length) : HS W (some a) (ss.take len) := by
  intro i hi
  have hi' : i < len := by rw [List.length_take] at hi; omega
  have hc := h i (by omega)
  obtain ⟨b, off, spot⟩ := a
  have hspot : spot = none := by simpa [Addr.add] using World.cell?_spot (h 0 (by omega))
  subst hspot
  refine ⟨b, off, rfl, ?_⟩
  rw [← Go.WideShapes.add_plain, hc]
  simp [show i < ss.length from by omega]

theorem bools_at {a : Addr} {B : Nat → Bool} {cap : Nat} (h : ∀ i, i < cap → W.cell? (a.add i) = some (.bool (B i))) (len : Nat) (hl : len ≤ cap) : HB W (some a) ((List.range len).map B) := by
  intro i hi
  have hi' : i < len := by simpa using hi
  have hc := h i (by omega)
  obtain ⟨b, off, spot⟩ := a
  have hspot : spot = none := by simpa [Addr.add] using World.cell?_spot (h 0 (by omega))
  subst hspot
  refine ⟨b, off, rfl, ?_⟩
  rw [← Go.WideShapes.add_plain, hc]
  simp

theorem inS_open {a : Option Addr} {len cap : Nat} {d : DataW H} {p : List MemPlace} (h : DataW.Trod enc Try.prog W 0 (fun _ => true) true 27 (.slice a len cap) d p) : ∃ ss : List ByteArray, ss.length = len ∧ InS W a ss cap := by
  obtain ⟨fuel, hf⟩ := h
  rcases open_strings Try.underlying27 Try.underlying9 cells9 hf with ⟨hcs, _⟩ | ⟨x, l, c, ss, hcs, _, hl, hm, hz, _, hcell, hws⟩
  · simp [Value.cells] at hcs
    obtain ⟨rfl, rfl, rfl⟩ := hcs
    exact ⟨[], rfl, fun i hi => by simp at hi, fun _ => ⟨rfl, rfl⟩, Nat.zero_le _, fun s hs => by simp at hs⟩
  · simp [Value.cells] at hcs
    obtain ⟨rfl, rfl, rfl⟩ := hcs
    simp at hz
    have hlen : (ss.take len).length = len := by rw [List.length_take]; omega
    exact ⟨ss.take len, hlen, strings_at hcell len (by omega), fun e => (by cases e), by omega, fun s hs => hws s (List.mem_of_mem_take hs)⟩

theorem inB_open {a : Option Addr} {len cap : Nat} {d : DataW H} {p : List MemPlace} (h : DataW.Trod enc Try.prog W 0 (fun _ => true) true 28 (.slice a len cap) d p) : ∃ bs : List Bool, bs.length = len ∧ InB W a bs cap := by
  obtain ⟨fuel, hf⟩ := h
  rcases Deep.open_bools Try.underlying28 Try.underlying4 cells4 hf with ⟨hcs, _⟩ | ⟨x, l, c, B, hcs, _, hl, hm, _, hcell⟩
  · simp [Value.cells] at hcs
    obtain ⟨rfl, rfl, rfl⟩ := hcs
    exact ⟨[], rfl, fun i hi => by simp at hi, fun _ => ⟨rfl, rfl⟩, Nat.zero_le _⟩
  · simp [Value.cells] at hcs
    obtain ⟨rfl, rfl, rfl⟩ := hcs
    exact ⟨(List.range len).map B, by simp, bools_at hcell len hl, fun e => (by cases e), by simp; omega⟩
end
end Go.Proofs.Qxb6604503a
