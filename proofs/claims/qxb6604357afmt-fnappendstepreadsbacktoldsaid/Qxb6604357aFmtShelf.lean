/-
  DERIVED: THE SHELF's CONTRACTS AT THIS DUMP, IN PLAIN WORDS (tools/lay-plain.mjs): THE SAME DECLARATIONS UNDER THE SAME NAMES: 'import', 'namespace', 'open', 'def', 'theorem' AND NOTHING ELSE: no command of the shelf's: FOR A HAND-IN. Each laying: the table of numbers ('.._ren') and one theorem, a field a fact of the dump's own or the kernel's comparison; each contract: ONE APPLICATION.
-/
import Derived.Ground.MnProg
import Derived.Shelf.Bin.BEUint64
import Derived.Test.Qxb6604357aFmtProg
namespace Go.Proofs
open Go.Shelf
def Tryf.laysBin42_ren : Go.Shelf.Ren := ⟨fun | 42 => 44 | n => n, fun | 37 => 81 | 22 => 22 | 33 => 23 | 0 => 0 | 5 => 5 | 45 => 45 | n => n, fun | n => n⟩
theorem Tryf.laysBin42 : Go.Proofs.LaysBin.n42 Tryf.prog Tryf.laysBin42_ren := {
  mixed := by kernel_rfl
  f42 := Tryf.func44.trans (congrArg some (by kernel_rfl))
  t0 := Tryf.underlying0
  a0 := Tryf.isAgg0
  z0 := Tryf.sizeOf0
  v0 := Tryf.zeroValue0
  i0 := by kernel_rfl
  t5 := Tryf.underlying5
  a5 := Tryf.isAgg5
  z5 := Tryf.sizeOf5
  v5 := Tryf.zeroValue5
  i5 := by kernel_rfl
  t22 := Tryf.underlying22
  a22 := Tryf.isAgg22
  z22 := Tryf.sizeOf22
  v22 := Tryf.zeroValue22
  i22 := by kernel_rfl
  t33 := Tryf.underlying23
  a33 := Tryf.isAgg23
  z33 := Tryf.sizeOf23
  v33 := Tryf.zeroValue23
  i33 := by kernel_rfl
  t37 := Tryf.underlying81
  a37 := Tryf.isAgg81
  z37 := Tryf.sizeOf81
  v37 := Tryf.zeroValue81
  i37 := by kernel_rfl
  t45 := Tryf.underlying45
  a45 := Tryf.isAgg45
  z45 := Tryf.sizeOf45
  v45 := Tryf.zeroValue45
  i45 := by kernel_rfl }
open Go.RowKit in
/-- binary.BigEndian.Uint64 at this dump, off the shelf: the number that the first 8 bytes spell, the greatest byte first; of what was there nothing has turned. -/
theorem Tryf.binary_BE_Uint64 (g o n c : Nat) (b0 b1 b2 b3 b4 b5 b6 b7 : UInt8) (w : World) (hn : 8 ≤ n) (c0 : w.cell? ⟨g, o, none⟩ = some (.int .u8 b0.toNat)) (c1 : w.cell? ⟨g, o + 1, none⟩ = some (.int .u8 b1.toNat)) (c2 : w.cell? ⟨g, o + 2, none⟩ = some (.int .u8 b2.toNat)) (c3 : w.cell? ⟨g, o + 3, none⟩ = some (.int .u8 b3.toNat)) (c4 : w.cell? ⟨g, o + 4, none⟩ = some (.int .u8 b4.toNat)) (c5 : w.cell? ⟨g, o + 5, none⟩ = some (.int .u8 b5.toNat)) (c6 : w.cell? ⟨g, o + 6, none⟩ = some (.int .u8 b6.toNat)) (c7 : w.cell? ⟨g, o + 7, none⟩ = some (.int .u8 b7.toNat)) :
    Calls Tryf.prog 44 #[.agg #[], .slice (some ⟨g, o, none⟩) n c] w fun e w' => e = .returned (.int .u64 (Lib.beNat [b0, b1, b2, b3, b4, b5, b6, b7])) ∧ Below w.heap.size w w' := Any.binary_BE_Uint64 Tryf.laysBin42 g o n c b0 b1 b2 b3 b4 b5 b6 b7 w hn c0 c1 c2 c3 c4 c5 c6 c7
end Go.Proofs
