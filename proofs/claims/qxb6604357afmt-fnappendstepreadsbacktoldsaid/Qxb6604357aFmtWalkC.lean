/-
  The walks of seat b6604357aF, third part: depth, number (big-endian, off the shelf), small facts on owned rows.
-/
import Derived.Test.Qxb6604357aFmtWalkB
import Derived.Test.Qxb6604357aFmtShelf
import Derived.Deep.RegionWith
namespace Go.Proofs.Qxb6604357aFmt
open Go.RowKit

theorem depth_any (o : Nat) (s : ByteArray) (w : World) (hs : s.size ≤ 1048576) :
    Calls Tryf.prog 40 #[.agg #[.int .u64 o, .string s]] w fun e w' => e = .returned (.int .i64 (s.size / 8 : Nat)) ∧ w' = w.alloc (.cells #[.int .u64 o, .string s] 38) := by
  go_enter Tryf.func40, Tryf.ntmps40
  go_wp2
  go_ret
  exact ⟨by go_num, rfl⟩

theorem beFrom_eq : ∀ (l : List UInt8) (v : Nat), Lib.beFrom v l = l.foldl (fun v c => v * 256 + c.toNat) v
  | [], v => rfl
  | c :: r, v => by rw [List.foldl_cons, ← beFrom_eq r]; rfl

theorem num_eq (s : ByteArray) (i : Nat) (h : i + 8 ≤ s.size) :
    num s i = Lib.beNat [s[i], s[i + 1], s[i + 2], s[i + 3], s[i + 4], s[i + 5], s[i + 6], s[i + 7]] := by
  have e : (s.data.toList.drop i).take 8 = [s[i], s[i + 1], s[i + 2], s[i + 3], s[i + 4], s[i + 5], s[i + 6], s[i + 7]] := by
    rw [drop_take_snoc s i 7 (by omega), drop_take_snoc s i 6 (by omega), drop_take_snoc s i 5 (by omega), drop_take_snoc s i 4 (by omega), drop_take_snoc s i 3 (by omega), drop_take_snoc s i 2 (by omega), drop_take_snoc s i 1 (by omega), drop_take_snoc s i 0 (by omega)]
    simp
  unfold num be Lib.beNat
  rw [e, beFrom_eq]

theorem uint64_of (s : ByteArray) (i : Nat) (hi : i + 8 ≤ s.size) (g c : Nat) (w : World) (hc : ∀ j (h : j < 8), w.cell? ⟨g, j, none⟩ = some (.int .u8 (s[i + j].toNat))) :
    Calls Tryf.prog 44 #[.agg #[], .slice (some ⟨g, 0, none⟩) 8 c] w fun e w' => e = .returned (.int .u64 (num s i)) ∧ Below w.heap.size w w' := by
  rw [num_eq s i hi]
  exact Tryf.binary_BE_Uint64 g 0 8 c s[i] s[i + 1] s[i + 2] s[i + 3] s[i + 4] s[i + 5] s[i + 6] s[i + 7] w (Nat.le_refl _)
    (hc 0 (by omega)) (hc 1 (by omega)) (hc 2 (by omega)) (hc 3 (by omega)) (hc 4 (by omega)) (hc 5 (by omega)) (hc 6 (by omega)) (hc 7 (by omega))

theorem bytesRow_cell (s : ByteArray) (i c : Nat) (hi : i + 8 ≤ s.size) (w : World) (m : Nat × Nat) (j : Nat) (h : j < 8) :
    (w.alloc (.cells (bytesRow (s.extract i (i + 8)) c) 5 m)).cell? ⟨w.heap.size, j, none⟩ = some (.int .u8 (s[i + j].toNat)) := by
  rw [cell_of_row _ w.heap.size j _ 5 m (heap_alloc_new w _)]
  have hsz : (s.extract i (i + 8)).size = 8 := by rw [ByteArray.size_extract]; omega
  have hd : (s.extract i (i + 8)).data = s.data.extract i (i + 8) := by simp
  unfold bytesRow
  rw [Array.getElem?_append_left (by rw [Array.size_map]; show j < (s.extract i (i + 8)).size; omega), Array.getElem?_map, hd, Array.getElem?_extract]
  have hs' : i + j < s.data.size := by show i + j < s.size; omega
  simp
  exact ⟨_, ⟨by omega, Array.getElem?_eq_getElem hs'⟩, rfl⟩

theorem below2 {w w2 : World} {o1 o2 : Obj} {B : Nat} (hB : w.heap.size ≤ B) (hb : Below B ((w.alloc o1).alloc o2).drew.drew w2) : Below w.heap.size w w2 :=
  ((((Below.refl _ w).alloc (Nat.le_refl _) o1).alloc (by simp) o2).drew.drew).trans (hb.mono hB)

theorem bytesRow_cell2 (s : ByteArray) (i c : Nat) (hi : i + 8 ≤ s.size) (w : World) (box : Obj) (m : Nat × Nat) (j : Nat) (h : j < 8) :
    ((w.alloc box).alloc (.cells (bytesRow (s.extract i (i + 8)) c) 5 m)).drew.drew.cell? ⟨w.heap.size + 1, j, none⟩ = some (.int .u8 (s[i + j].toNat)) := by
  have := bytesRow_cell s i c hi (w.alloc box) m j h
  rw [World.size_alloc] at this
  exact this

set_option maxRecDepth 20000 in
set_option maxHeartbeats 400000 in
theorem number_any (o k : Nat) (s : ByteArray) (w : World) (hs : s.size ≤ 1048576) (hk : 8 * k + 8 ≤ s.size) :
    Calls Tryf.prog 41 #[.agg #[.int .u64 o, .string s], .int .i64 k] w fun e w' => e = .returned (.int .u64 (num s (8 * k))) ∧ Below w.heap.size w w' := by
  have k1 : 8 * (k : Int) + 8 ≤ (s.size : Int) := by omega
  have w1 : IntKind.i64.wrap (8 * (k : Int)) = 8 * (k : Int) := by rw [IntKind.wrap_i64]; omega
  have w2 : IntKind.i64.wrap (8 * (k : Int) + 8) = 8 * (k : Int) + 8 := by rw [IntKind.wrap_i64]; omega
  have k2 : 0 ≤ 8 * (k : Int) + 8 := by omega
  have k3 : 0 ≤ 8 * (k : Int) := by omega
  have k4 : 8 * (k : Int) ≤ 8 * (k : Int) + 8 := by omega
  have t1 : (8 * (k : Int)).toNat = 8 * k := by omega
  have t2 : (8 * (k : Int) + 8).toNat = 8 * k + 8 := by omega
  have hsl : ∀ w : World, (Instr.slice 9 (.string s) (some (.int .i64 (8 * (k : Int)))) (some (.int .i64 (8 * (k : Int) + 8))) none).run Tryf.prog w = .ok (.string (s.extract (8 * k) (8 * k + 8))) w := fun w => by
    rw [run_slice_string (P := Tryf.prog) w 9 s .i64 .i64 _ _ Tryf.underlying9 (by omega) (by omega) (by omega)]
    congr 3 <;> omega
  have hcv := fun w => run_bytes_of_string (P := Tryf.prog) w 9 22 5 (s.extract (8 * k) (8 * k + 8)) Tryf.underlying9 Tryf.underlying22 Tryf.underlying5
  go_enter Tryf.func41, Tryf.ntmps41
  go_wp2
  go_region_with (go_at_call 44; go_must (refine (uint64_of s (8 * k) hk _ _ _ (fun j hj => bytesRow_cell2 s (8 * k) _ hk w _ _ j hj)).mono ?_; rintro e w2 ⟨rfl, hb⟩))
  all_goals go_wp2
  all_goals go_ret
  all_goals exact ⟨rfl, below2 (by simp; omega) hb⟩


theorem ownsRow_base {w : World} {v : Value} {n : Nat} {xs : List Value} {A B : Nat} (h : w.ownsRow A 5 1 v n xs) (hB : ∀ k, v.ownBlock = some k → B ≤ k) : w.ownsRow B 5 1 v n xs := by
  refine ⟨h.1, ?_⟩
  rcases h.2 with hn | ⟨g, cap, cur, rfl, _, rest⟩
  · exact Or.inl hn
  · exact Or.inr ⟨g, cap, cur, rfl, hB g rfl, rest⟩

theorem below_grownBy {w w' : World} (h : Below w.heap.size w w') : w.grownBy w' none := ⟨h.os, h.tape, h.output, h.size, fun k hk _ => h.block k hk⟩

theorem ownsRow_below {w w' : World} {v : Value} {n : Nat} {xs : List Value} {A : Nat} (h : w.ownsRow A 5 1 v n xs) (hb : Below w.heap.size w w') : w'.ownsRow A 5 1 v n xs :=
  h.kept (below_grownBy hb) (by cases hv : v.ownBlock <;> simp)

theorem Grew.own {w w' : World} {v v' : Value} {n n' B : Nat} (h : Grew w w' v v' n n') (hv : ∀ k, v.ownBlock = some k → B ≤ k) (hB : B ≤ w.heap.size) : ∀ k, v'.ownBlock = some k → B ≤ k := by
  intro k hk
  rcases h.at_ with h1 | ⟨j, h1, h2⟩
  · exact hv k (h1 ▸ hk)
  · rw [h1] at hk; cases hk; omega

theorem Grew.below {w w' : World} {v v' : Value} {n n' B : Nat} (h : Grew w w' v v' n n') (hv : ∀ k, v.ownBlock = some k → B ≤ k) (hB : B ≤ w.heap.size) : Below B w w' :=
  ⟨h.by_.os, h.by_.tape, h.by_.output, h.by_.size, fun k hk => h.by_.block k (by omega) (fun e => by have := hv k e.symm; omega)⟩

theorem ownsRow_owner {w : World} {v : Value} {n : Nat} {xs : List Value} {A : Nat} (h : w.ownsRow A 5 1 v n xs) : ∀ k, v.ownBlock = some k → A ≤ k := fun k hk => (h.lt k hk).1

end Go.Proofs.Qxb6604357aFmt
