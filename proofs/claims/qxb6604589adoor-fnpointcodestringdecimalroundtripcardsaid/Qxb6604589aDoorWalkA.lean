/-
  The walks of seat b6604589aD, first part: strconv.FormatUint at base 10 for a number of sixteen bits, PointCode.String, decimalDigits.
-/
import Derived.Test.Qxb6604589aDoorRows
import Derived.Test.Qxb6604589aDoorShelf
import Derived.Lib.Walk
import Derived.Lib.ItoaMem
import Derived.Lib.Hide
import Derived.WalkKit
import Derived.BigCall
import Derived.BigGuard
namespace Go.Proofs.Qxb6604589aDoor
open Go.Shelf Go.RowKit Go.Sort Go.Lib

/-- The new block's bytes from its start on are a row of zeros. -/
theorem holds_zero0 (w : World) (T : TypeId) (nd : Nat) (hs : nd ≤ 24) : Holds (fun (b : UInt8) => Value.int .u8 (b.toNat : Int)) (w.alloc (.cells zeros24 T)) w.heap.size 0 (Array.replicate nd (0 : UInt8)) := fun j hj => by
  have hj' : j < nd := by simpa using hj
  refine ⟨?_, World.frozen?_alloc_new _ _ _ _⟩
  rw [World.cell?_alloc_new, zeros24_at _ (by omega), getElem!_pos _ j hj]
  simp

theorem fin0 (w : World) (o : Obj) (dk : Array UInt8) (k : Nat) : ∃ os, (putRow (fun (b : UInt8) => Value.int .u8 (b.toNat : Int)) (w.alloc o) w.heap.size 0 dk).drewN k = grow (w.drewN k) os := by
  rw [alloc_eq_grow]
  obtain ⟨os', _, e⟩ := putRow_grow_new (fun (b : UInt8) => Value.int .u8 (b.toNat : Int)) w #[o] w.heap.size 0 dk (Nat.le_refl _)
  exact ⟨os', by rw [e]; rfl⟩

/-- What the numeral's makers leave: the numeral; the world has grown. -/
def NumPost (u : Nat) (w : World) (e : Ending) (w' : World) : Prop := e = .returned (.string ⟨(decDigits u).toArray⟩) ∧ ∃ k os, w' = grow (w.drewN k) os

set_option maxHeartbeats 6400000 in
set_option maxRecDepth 100000 in
theorem formatUint9 (u : Nat) (hu : u < 65536) (w : World) (htab : TabIs Tryd.prog w Tryd.powName .u64 pow10Tab) :
    Calls Tryd.prog 9 #[.int .u64 u, .int .i64 10] w fun e w' => NumPost u w e w' := by
  by_cases hs : u < 100
  · go_enter Tryd.func9, Tryd.ntmps9
    go_wp2_with (go_at_call 10; refine (Tryd.internal_strconv_small u hs _).mono ?_; rintro e w' ⟨rfl, rfl⟩)
    go_ret
    exact ⟨rfl, 0, #[], by simp [World.drewN_zero]⟩
  · have hu1 : 1 ≤ u := by omega
    have hu64 : u < 18446744073709551616 := by omega
    have hnd20 : nDigits u ≤ 20 := by have := numDigits_eq u hu1 hu64; split at this <;> omega
    have hal : Tryd.prog.arrayLen 33 = 24 := by simp [Program.arrayLen, Tryd.underlying33]
    have hsl1 : ∀ W, (Instr.sliceAt 33 (.pointer (some ⟨w.heap.size, 0, none⟩)) none (some (.int .i64 (nDigits u : Int))) none).run Tryd.prog W = .ok (.slice (some ⟨w.heap.size, 0, none⟩) (nDigits u) 24) W := fun W => by
      rw [run_sliceAt_array_h W 33 ⟨w.heap.size, 0, none⟩ (by simp [Program.arrayLen, Program.elem, Tryd.underlying33]) .i64 (nDigits u : Int) (by omega) (by rw [hal]; omega)]
      go_simp
    have hH0 := holds_zero0 w 33 (nDigits u) (by omega)
    have hfmt := Tryd.internal_strconv_formatBase10 w.heap.size 0 24 u (Array.replicate (nDigits u) 0) (w.alloc (.cells zeros24 33)) hH0 (by rw [Array.size_replicate]; exact lt_pow_nDigits u) hu64 (by rw [Array.size_replicate]; omega)
    rw [Array.size_replicate] at hfmt
    have HH0 := hid hH0
    clear hH0 hal
    go_enter Tryd.func9, Tryd.ntmps9
    go_wp2_with (first
      | (go_at_call 11; refine (Tryd.internal_strconv_numDigits u hu1 hu64 _ (tabIs_alloc htab _)).mono ?_; rintro e w' ⟨rfl, rfl⟩))
    go_at_call 12
    refine hfmt.mono ?_
    rintro e w' ⟨rfl, k, v', dk, rfl, hF⟩
    have hcv : (convert 36 9 (.slice (some ⟨w.heap.size, 0, none⟩) (nDigits u) 24)).run Tryd.prog ((putRow (fun (b : UInt8) => Value.int .u8 (b.toNat : Int)) (w.alloc (.cells zeros24 33)) w.heap.size 0 dk).drewN k) = .ok (.string ⟨(decDigits u).toArray⟩) ((putRow (fun (b : UInt8) => Value.int .u8 (b.toNat : Int)) (w.alloc (.cells zeros24 33)) w.heap.size 0 dk).drewN k) := by
      have h := run_convert_bytes_back (P := Tryd.prog) ((putRow (fun (b : UInt8) => Value.int .u8 (b.toNat : Int)) (w.alloc (.cells zeros24 33)) w.heap.size 0 dk).drewN k) 36 9 5 ⟨w.heap.size, 0, none⟩ 24 (decDigits u) Tryd.underlying36 Tryd.underlying5 Tryd.underlying9 (fun j hj => by
        rw [row_is_numeral hF j hj, add_plain, World.cell?_drewN]
        exact cell?_putRow (fun (b : UInt8) => Value.int .u8 (b.toNat : Int)) _ w.heap.size 0 _ dk HH0.out (by rw [hF.size, Array.size_replicate]) j (by rw [hF.size]; rw [decDigits_length] at hj; exact hj))
      rw [decDigits_length] at h
      exact h
    go_wp2
    go_ret
    obtain ⟨os, eo⟩ := fin0 w (.cells zeros24 33) dk k
    exact ⟨rfl, k, os, eo⟩

set_option maxRecDepth 20000 in
theorem formatUint8 (u : Nat) (hu : u < 65536) (w : World) (htab : TabIs Tryd.prog w Tryd.powName .u64 pow10Tab) :
    Calls Tryd.prog 8 #[.int .u64 u, .int .i64 10] w fun e w' => NumPost u w e w' := by
  go_enter Tryd.func8, Tryd.ntmps8
  go_wp2_with (go_at_call 9; refine (formatUint9 u hu _ htab).mono ?_; rintro e w' ⟨rfl, k, os, rfl⟩)
  go_ret
  exact ⟨rfl, k, os, rfl⟩

set_option maxRecDepth 20000 in
theorem pointCode (u : Nat) (hu : u < 65536) (w : World) (htab : TabIs Tryd.prog w Tryd.powName .u64 pow10Tab) :
    Calls Tryd.prog 5 #[.int .u16 u] w fun e w' => NumPost u w e w' := by
  have hw : IntKind.u64.wrap (u : Int) = u := by rw [IntKind.wrap_u64]; omega
  go_enter Tryd.func5, Tryd.ntmps5
  go_wp2_with (go_at_call 8; refine (formatUint8 u hu _ htab).mono ?_; rintro e w' ⟨rfl, k, os, rfl⟩)
  go_ret
  exact ⟨rfl, k, os, rfl⟩

theorem nDigits16 (u : Nat) (hu : u < 65536) : nDigits u = if u < 10 then 1 else if u < 100 then 2 else if u < 1000 then 3 else if u < 10000 then 4 else 5 := by
  by_cases h1 : u < 10
  · rw [if_pos h1, nDigits_small h1]
  by_cases h2 : u < 100
  · rw [if_neg h1, if_pos h2]
    exact nDigits_unique 1 u (by omega) (by omega)
  by_cases h3 : u < 1000
  · rw [if_neg h1, if_neg h2, if_pos h3]
    exact nDigits_unique 2 u (by omega) (by omega)
  by_cases h4 : u < 10000
  · rw [if_neg h1, if_neg h2, if_neg h3, if_pos h4]
    exact nDigits_unique 3 u (by omega) (by omega)
  · rw [if_neg h1, if_neg h2, if_neg h3, if_neg h4]
    exact nDigits_unique 4 u (by omega) (by omega)

set_option maxRecDepth 20000 in
theorem decimalDigitsZ (z : Int) (w : World) :
    Calls Tryd.prog 6 #[.int .u16 z] w fun e w' => e = .returned (.int .i64 (if z < 10 then 1 else if z < 100 then 2 else if z < 1000 then 3 else if z < 10000 then 4 else 5)) ∧ w' = w := by
  by_cases h1 : z < 10
  · rw [if_pos h1]
    go_enter Tryd.func6, Tryd.ntmps6
    go_wp2
    go_ret
    exact ⟨rfl, rfl⟩
  rw [if_neg h1]
  by_cases h2 : z < 100
  · rw [if_pos h2]
    go_enter Tryd.func6, Tryd.ntmps6
    go_wp2
    go_ret
    exact ⟨rfl, rfl⟩
  rw [if_neg h2]
  by_cases h3 : z < 1000
  · rw [if_pos h3]
    go_enter Tryd.func6, Tryd.ntmps6
    go_wp2
    go_ret
    exact ⟨rfl, rfl⟩
  rw [if_neg h3]
  by_cases h4 : z < 10000
  · rw [if_pos h4]
    go_enter Tryd.func6, Tryd.ntmps6
    go_wp2
    go_ret
    exact ⟨rfl, rfl⟩
  rw [if_neg h4]
  go_enter Tryd.func6, Tryd.ntmps6
  go_wp2
  go_ret
  exact ⟨rfl, rfl⟩

theorem decimalDigits (u : Nat) (hu : u < 65536) (w : World) :
    Calls Tryd.prog 6 #[.int .u16 u] w fun e w' => e = .returned (.int .i64 (nDigits u)) ∧ w' = w := by
  have e : (nDigits u : Int) = if (u : Int) < 10 then 1 else if (u : Int) < 100 then 2 else if (u : Int) < 1000 then 3 else if (u : Int) < 10000 then 4 else 5 := by
    rw [nDigits16 u hu]
    repeat' split
    all_goals omega
  rw [e]
  exact decimalDigitsZ u w
#print axioms pointCode
end Go.Proofs.Qxb6604589aDoor
