/-
  The walks of seat b6604357aF, fifth part: appendStep, ZZappendStep.
-/
import Derived.Test.Qxb6604357aFmtWalkD
namespace Go.Proofs.Qxb6604357aFmt
open Go.RowKit

theorem step_cell {w w1 : World} {sv v1 : Value} {n m m' : Nat} {xs : List Value} {o : Nat} {s : ByteArray} {d : Bool} (hown : w.ownsRow 0 5 1 sv n xs)
    (hg : Grew (w.alloc (.cells #[.int .u64 o, .string s, .bool d] 40)).drew w1 sv v1 m m') : w1.cell? ⟨w.heap.size, 2, none⟩ = some (.bool d) := by
  have hb : w1.heap[w.heap.size]? = (w.alloc (.cells #[.int .u64 o, .string s, .bool d] 40)).heap[w.heap.size]? :=
    hg.by_.block w.heap.size (by show w.heap.size < (w.alloc _).heap.size; simp) (fun e => by have := (hown.lt _ e.symm).2; omega)
  rw [heap_alloc_new] at hb
  exact cell_of_row _ _ 2 _ 40 (0, 0) hb

set_option maxRecDepth 20000 in
set_option maxHeartbeats 400000 in
theorem appendStep_any (o : Nat) (s : ByteArray) (d : Bool) (ho : o < 18446744073709551616) (hs : s.size ≤ 1048576) (n : Nat) (sv : Value) (xs : List Value) (w : World) (hown : w.ownsRow 0 5 1 sv n xs) (hlim : n ≤ 1048576) :
    Calls Tryf.prog 15 #[sv, .agg #[.int .u64 o, .string s, .bool d]] w fun e w' => AppPost w sv n (n + (sized o s).length + 1) (xs ++ (Lib.byteCells (sized o s) ++ [.int .u8 (flag d)])) e w' := by
  have hl2 : n + (sized o s).length + 10 ≤ 8388608 := by
    have := inner_len o s ho
    have := Lib.uvarint_length64 (x := (inner o s).length) (by omega)
    simp only [sized, List.length_append]; omega
  go_enter Tryf.func15, Tryf.ntmps15
  go_wp2
  go_region_with (first
    | (go_at_call 18; go_must (refine (appendMarshaled_any o s ho hs n sv xs _ (hown.alloc _).drew hlim).mono ?_; rintro e w1 ⟨v1, rfl, hown1, hgr1⟩; have hc2 := step_cell hown hgr1))
    | (go_at_call 17; go_must (refine (appendFlag_any _ d _ _ _ hown1 hl2).mono ?_; rintro e w2 ⟨v2, rfl, hown2, hgr2⟩)))
  all_goals go_wp2
  all_goals go_ret
  all_goals exact ⟨v2, rfl, by rw [← List.append_assoc]; exact hown2, (Grew.trans ((Grew.refl w sv n).alloc _).drew hgr1).trans hgr2⟩

set_option maxRecDepth 20000 in
set_option maxHeartbeats 400000 in
theorem zzAppendStep_any (o : Nat) (s : ByteArray) (d : Bool) (ho : o < 18446744073709551616) (hs : s.size ≤ 1048576) (n : Nat) (sv : Value) (xs : List Value) (w : World) (hown : w.ownsRow 0 5 1 sv n xs) (hlim : n ≤ 1048576) :
    Calls Tryf.prog 8 #[sv, .int .u64 o, .string s, .bool d] w fun e w' => AppPost w sv n (n + (sized o s).length + 1) (xs ++ (Lib.byteCells (sized o s) ++ [.int .u8 (flag d)])) e w' := by
  go_enter Tryf.func8, Tryf.ntmps8
  go_wp2_with fail
  refine (appendStep_any o s d ho hs n sv xs _ hown hlim).mono ?_
  rintro e w2 ⟨v2, rfl, hown2, hgr2⟩
  go_wp2
  go_ret
  exact ⟨v2, rfl, hown2, hgr2⟩
end Go.Proofs.Qxb6604357aFmt
