/-
  The walks of seat b6604462a, first part: bytes.Equal, bytes.HasPrefix, IsGenerated, zzBytes.
-/
import Derived.Test.Qxb6604462aRows
import Derived.WalkKit
import Derived.WalkSpells
import Derived.WalkLawsBesides
import Derived.OpenShut
import Derived.Maps.AppendAt
import Derived.Lib.SlBytesConst
import Derived.Lib.VarintMem
namespace Go.Proofs.Qxb6604462a
open Go.RowKit

theorem info5 : (Try.prog.info? 5).map (fun i => (i.zero, i.size, i.bytes)) = some (some (.int .u8 0), 1, 1) := by kernel_rfl

/-- The header line: 46 bytes. -/
def header : List UInt8 := [47, 47, 32, 67, 111, 100, 101, 32, 103, 101, 110, 101, 114, 97, 116, 101, 100, 32, 98, 121, 32, 98, 105, 110, 100, 119, 114, 105, 103, 104, 116, 46, 32, 68, 79, 32, 78, 79, 84, 32, 69, 68, 73, 84, 46, 10]
theorem header_len : header.length = 46 := rfl

set_option maxHeartbeats 400000 in
theorem equal_any (a b : Addr) (n c1 c2 : Nat) (l1 l2 : List UInt8) (w : World) (hn1 : l1.length = n) (hn2 : l2.length = n)
    (h1 : ∀ j (hj : j < l1.length), w.cell? (a.add j) = some (.int .u8 (l1[j].toNat : Int))) (h2 : ∀ j (hj : j < l2.length), w.cell? (b.add j) = some (.int .u8 (l2[j].toNat : Int))) :
    Calls Try.prog 7 #[.slice (some a) n c1, .slice (some b) n c2] w fun e w' => e = .returned (.bool (l1 == l2)) ∧ w' = w := by
  have q1 := run_convert_bytes_back (P := Try.prog) w 22 9 5 a c1 l1 Try.underlying22 Try.underlying5 Try.underlying9 h1
  have q2 := run_convert_bytes_back (P := Try.prog) w 22 9 5 b c2 l2 Try.underlying22 Try.underlying5 Try.underlying9 h2
  rw [hn1] at q1
  rw [hn2] at q2
  clear h1 h2
  go_enter Try.func7, Try.ntmps7
  go_wp2
  go_ret
  exact ⟨rfl, rfl⟩

set_option maxHeartbeats 400000 in
theorem hasPrefix_any (g gp n c1 c2 : Nat) (l1 l2 : List UInt8) (w : World) (hn1 : l1.length = 46) (hn2 : l2.length = 46) (hn : 46 ≤ n) (hc : n ≤ c1) (hb : n ≤ 8388608)
    (h1 : ∀ j (hj : j < l1.length), w.cell? ⟨g, j, none⟩ = some (.int .u8 (l1[j].toNat : Int))) (h2 : ∀ j (hj : j < l2.length), w.cell? ⟨gp, j, none⟩ = some (.int .u8 (l2[j].toNat : Int))) :
    Calls Try.prog 6 #[.slice (some ⟨g, 0, none⟩) n c1, .slice (some ⟨gp, 0, none⟩) 46 c2] w fun e w' => e = .returned (.bool (l1 == l2)) ∧ w' = w := by
  have he := equal_any ⟨g, 0, none⟩ ⟨gp, 0, none⟩ 46 c1 c2 l1 l2 w hn1 hn2 (fun j hj => by rw [Addr.add_lit, Nat.zero_add]; exact h1 j hj) (fun j hj => by rw [Addr.add_lit, Nat.zero_add]; exact h2 j hj)
  have hN : (46 : Int) ≤ (n : Int) := by omega
  clear h1 h2
  go_enter Try.func6, Try.ntmps6
  go_wp2_with fail
  refine he.mono ?_
  rintro e w' ⟨rfl, rfl⟩
  go_wp2
  go_ret
  exact ⟨rfl, rfl⟩

theorem header_lit : (#[.int .u8 47, .int .u8 47, .int .u8 32, .int .u8 67, .int .u8 111, .int .u8 100, .int .u8 101, .int .u8 32, .int .u8 103, .int .u8 101, .int .u8 110, .int .u8 101, .int .u8 114, .int .u8 97, .int .u8 116, .int .u8 101, .int .u8 100, .int .u8 32, .int .u8 98, .int .u8 121, .int .u8 32, .int .u8 98, .int .u8 105, .int .u8 110, .int .u8 100, .int .u8 119, .int .u8 114, .int .u8 105, .int .u8 103, .int .u8 104, .int .u8 116, .int .u8 46, .int .u8 32, .int .u8 68, .int .u8 79, .int .u8 32, .int .u8 78, .int .u8 79, .int .u8 84, .int .u8 32, .int .u8 69, .int .u8 68, .int .u8 73, .int .u8 84, .int .u8 46, .int .u8 10] : Array Value) = (header.map fun c => Value.int .u8 (c.toNat : Int)).toArray := rfl

theorem header_cells (w : World) (j : Nat) (hj : j < header.length) :
    (w.alloc (.cells #[.int .u8 47, .int .u8 47, .int .u8 32, .int .u8 67, .int .u8 111, .int .u8 100, .int .u8 101, .int .u8 32, .int .u8 103, .int .u8 101, .int .u8 110, .int .u8 101, .int .u8 114, .int .u8 97, .int .u8 116, .int .u8 101, .int .u8 100, .int .u8 32, .int .u8 98, .int .u8 121, .int .u8 32, .int .u8 98, .int .u8 105, .int .u8 110, .int .u8 100, .int .u8 119, .int .u8 114, .int .u8 105, .int .u8 103, .int .u8 104, .int .u8 116, .int .u8 46, .int .u8 32, .int .u8 68, .int .u8 79, .int .u8 32, .int .u8 78, .int .u8 79, .int .u8 84, .int .u8 32, .int .u8 69, .int .u8 68, .int .u8 73, .int .u8 84, .int .u8 46, .int .u8 10] 5 (46, 47))).cell? ⟨w.heap.size, j, none⟩ = some (.int .u8 (header[j].toNat : Int)) := by
  rw [World.cell?_alloc_mark, header_lit, List.getElem?_toArray, List.getElem?_map, List.getElem?_eq_getElem hj]
  rfl

set_option maxHeartbeats 400000 in
theorem isGen_any (g n c1 : Nat) (l : List UInt8) (w : World) (hn1 : l.length = 46) (hn : 46 ≤ n) (hc : n ≤ c1) (hb : n ≤ 8388608)
    (h1 : ∀ j (hj : j < l.length), w.cell? ⟨g, j, none⟩ = some (.int .u8 (l[j].toNat : Int))) :
    Calls Try.prog 5 #[.slice (some ⟨g, 0, none⟩) n c1] w fun e w' => e = .returned (.bool (l == header)) ∧ Below w.heap.size w w' := by
  have kc := fun (w : World) (C : Array Value) (n c : Nat) => Lib.run_convert_bytes_const (P := Try.prog) w 22 5 C n c Try.underlying22 Try.underlying5
  go_enter Try.func5, Try.ntmps5
  go_wp2_with fail
  refine (hasPrefix_any g w.heap.size n c1 46 l header _ hn1 header_len hn hc hb (fun j hj => Lib.cell?_alloc_marked _ (h1 j hj)) (header_cells w)).mono ?_
  rintro e w' ⟨rfl, rfl⟩
  go_wp2
  go_ret
  exact ⟨rfl, (Below.refl _ _).alloc (Nat.le_refl _) _⟩

theorem zzBytes_yes (a : Option Addr) (len cap : Nat) (w : World) (h : len ≤ 1048576) :
    Calls Try.prog 4 #[.slice a len cap] w fun e w' => e = .returned (.bool true) ∧ w' = w := by
  go_enter Try.func4, Try.ntmps4
  go_wp2
  go_ret
  exact ⟨rfl, rfl⟩

theorem zzBytes_no (a : Option Addr) (len cap : Nat) (w : World) (h : ¬ len ≤ 1048576) :
    Calls Try.prog 4 #[.slice a len cap] w fun e w' => e = .returned (.bool false) ∧ w' = w := by
  go_enter Try.func4, Try.ntmps4
  go_wp2
  go_ret
  exact ⟨rfl, rfl⟩
end Go.Proofs.Qxb6604462a
