/-
  The walks of seat b6604462a, second part: the buffer (header, then body) as the loops turn it; one changed byte.
-/
import Derived.Test.Qxb6604462aWalkA
namespace Go.Proofs.Qxb6604462a
open Go.RowKit

/-- The buffer: N bytes in the call's own block w.heap.size, first h (46 bytes), then 'rest'; nothing old has turned. -/
structure Buf (w wr : World) (N : Nat) (h : List UInt8) (rest : List Value) : Prop where
  own : wr.ownsRow w.heap.size 5 1 (.slice (some ⟨w.heap.size, 0, none⟩) N N) N (Lib.byteCells h ++ rest)
  below : Below w.heap.size w wr
  len : h.length = 46
  N46 : 46 ≤ N
  lim : N ≤ 8388608

theorem Buf.size {w wr : World} {N : Nat} {h : List UInt8} {rest : List Value} (b : Buf w wr N h rest) : w.heap.size < wr.heap.size :=
  (b.own.lt w.heap.size rfl).2

theorem Buf.cell {w wr : World} {N : Nat} {h : List UInt8} {rest : List Value} (b : Buf w wr N h rest) (j : Nat) (hj : j < h.length) : wr.cell? ⟨w.heap.size, j, none⟩ = some (.int .u8 (h[j].toNat : Int)) := by
  have h1 := b.N46
  have h2 := b.len
  rw [b.own.cellAt j (by omega), List.getElem?_append_left (by simpa [Lib.byteCells] using hj)]
  simp [Lib.byteCells, hj]

theorem Buf.frozen {w wr : World} {N : Nat} {h : List UInt8} {rest : List Value} (b : Buf w wr N h rest) (j : Nat) : wr.frozen? ⟨w.heap.size, j, none⟩ = false := b.own.frozenAt j

theorem Buf.keep {w wr w1 : World} {N : Nat} {h : List UInt8} {rest : List Value} (b : Buf w wr N h rest) (hb : Below wr.heap.size wr w1) : Buf w w1 N h rest :=
  ⟨b.own.kept (row := none) ⟨hb.os, hb.tape, hb.output, hb.size, fun k hk _ => hb.block k hk⟩ (Or.inr (by simp [Value.ownBlock])), b.below.trans (hb.mono b.below.size), b.len, b.N46, b.lim⟩

theorem byteCells_set (h : List UInt8) (k : Nat) (c : UInt8) : Lib.byteCells (h.set k c) = (Lib.byteCells h).set k (.int .u8 (c.toNat : Int)) := by
  simp [Lib.byteCells, List.map_set]

theorem Buf.store {w wr : World} {N : Nat} {h : List UInt8} {rest : List Value} (b : Buf w wr N h rest) (k : Nat) (hk : k < 46) (c : UInt8) :
    Buf w (wr.setCell ⟨w.heap.size, k, none⟩ (.int .u8 (c.toNat : Int))) N (h.set k c) rest := by
  refine ⟨?_, b.below.setCell (Nat.le_refl _) _, by rw [List.length_set]; exact b.len, b.N46, b.lim⟩
  have := (b.own.stored k (.int .u8 (c.toNat : Int))).1
  rw [List.set_append_left _ _ (by have := b.len; simp [Lib.byteCells]; omega), ← byteCells_set] at this
  exact this

theorem Buf.gen {w wr : World} {N : Nat} {h : List UInt8} {rest : List Value} (b : Buf w wr N h rest) :
    Calls Try.prog 5 #[.slice (some ⟨w.heap.size, 0, none⟩) N N] wr fun e w' => e = .returned (.bool (h == header)) ∧ Buf w w' N h rest :=
  (isGen_any w.heap.size N N h wr b.len b.N46 (Nat.le_refl _) b.lim b.cell).mono fun _ _ ⟨he, hb⟩ => ⟨he, b.keep hb⟩

/-- A byte, and what xor with d (1 to 255) makes of it: another byte. -/
theorem xor_other (a : UInt8) (d : Nat) (h1 : 1 ≤ d) (h2 : d < 256) : ∃ c : UInt8, bits .xor .u8 (a.toNat : Int) (d : Int) = (c.toNat : Int) ∧ c ≠ a := by
  have ha := a.toNat_lt
  have hx : a.toNat ^^^ d < 256 := Nat.xor_lt_two_pow (n := 8) (by omega) (by omega)
  refine ⟨(a.toNat ^^^ d).toUInt8, ?_, ?_⟩
  · rw [Lib.toUInt8_toNat hx]
    exact u8_xor_nat a.toNat d (by omega) (by omega)
  · intro e
    have e1 : a.toNat ^^^ d = a.toNat := by
      have := congrArg UInt8.toNat e
      rwa [Lib.toUInt8_toNat hx] at this
    have e2 : a.toNat ^^^ (a.toNat ^^^ d) = a.toNat ^^^ a.toNat := by rw [e1]
    rw [← Nat.xor_assoc, Nat.xor_self, Nat.zero_xor] at e2
    omega

theorem set_other (h : List UInt8) (k : Nat) (hk : k < h.length) (c : UInt8) (hc : c ≠ h[k]) : (h.set k c == h) = false := by
  rw [beq_eq_false_iff_ne]
  intro e
  apply hc
  have : (h.set k c)[k]'(by simpa using hk) = c := by simp
  rw [← this]
  simp only [e]

theorem set_back (h : List UInt8) (k : Nat) (hk : k < h.length) (c : UInt8) : (h.set k c).set k h[k] = h := by
  simp
end Go.Proofs.Qxb6604462a
