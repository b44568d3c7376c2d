/-
  The walks of seat b6604503a, first part: what a slice of strings or bools holds; zzStringsBytes, zzStatementsTooBig, zzStatementsShaped.
-/
import Derived.Test.Qxb6604503aRows
import Derived.Test.Qxb6604503aPlain
import Derived.WalkKit
import Derived.WalkSpells
import Derived.WalkLawsBesides
import Derived.OpenShut
import Derived.Deep.QuietTactic
import Derived.BigQuiet
import Derived.Deep.RegionWith
namespace Go.Proofs.Qxb6604503a
open Go.RowKit

/-- The slice at a holds the strings ss. -/
def HS (w : World) (a : Option Addr) (ss : List ByteArray) : Prop := ∀ i (hi : i < ss.length), ∃ b off, a = some ⟨b, off, none⟩ ∧ w.cell? ⟨b, off + i, none⟩ = some (.string ss[i])
/-- The slice at a holds the bools bs. -/
def HB (w : World) (a : Option Addr) (bs : List Bool) : Prop := ∀ i (hi : i < bs.length), ∃ b off, a = some ⟨b, off, none⟩ ∧ w.cell? ⟨b, off + i, none⟩ = some (.bool bs[i])

/-- From w to w': new blocks, and writes to the map 'row' alone. -/
structure Eff (w w' : World) (row : Option Nat) : Prop where
  grown : w.grownBy w' row
  map : ∀ r, row = some r → ∃ es c, w.heap[r]? = some (.map es c)

theorem Eff.cell {w w' : World} {row : Option Nat} (h : Eff w w' row) {a : Addr} {v : Value} (hc : w.cell? a = some v) : w'.cell? a = some v :=
  h.grown.cell hc (fun e => by
    obtain ⟨es, c, hb⟩ := h.map _ e.symm
    simp [World.cell?, hb] at hc)

theorem HS.eff {w w' : World} {row : Option Nat} {a : Option Addr} {ss : List ByteArray} (h : HS w a ss) (he : Eff w w' row) : HS w' a ss := fun i hi => by
  obtain ⟨b, off, ha, hc⟩ := h i hi
  exact ⟨b, off, ha, he.cell hc⟩
theorem HB.eff {w w' : World} {row : Option Nat} {a : Option Addr} {ss : List Bool} (h : HB w a ss) (he : Eff w w' row) : HB w' a ss := fun i hi => by
  obtain ⟨b, off, ha, hc⟩ := h i hi
  exact ⟨b, off, ha, he.cell hc⟩

theorem Eff.of_below {w w' : World} (h : Below w.heap.size w w') : Eff w w' none :=
  ⟨⟨h.os, h.tape, h.output, h.size, fun k hk _ => h.block k hk⟩, fun r hr => by cases hr⟩

/-- Some number comes back; the world stands. -/
def IntPost (w : World) (e : Ending) (w' : World) : Prop := ∃ r : Int, e = .returned (.int .i64 r) ∧ w' = w
/-- Some bool comes back; where it is true p holds; the world stands. -/
def BoolPost (p : Prop) (w : World) (e : Ending) (w' : World) : Prop := ∃ b : Bool, e = .returned (.bool b) ∧ (b = true → p) ∧ w' = w

set_option maxRecDepth 20000 in
set_option maxHeartbeats 400000 in
theorem stringsBytes_any (a : Option Addr) (ss : List ByteArray) (cap : Nat) (t : Int) (w : World) (hl : ss.length ≤ maxLen) (h : HS w a ss) :
    Calls Try.prog 25 #[.slice a ss.length cap, .int .i64 t] w fun e w' => IntPost w e w' := by
  unfold maxLen at hl
  have H : Hid (HS w a ss) := h
  clear h
  by_cases ht : 1048576 < t
  · go_enter Try.func25, Try.ntmps25
    go_wp2
    go_ret
    exact ⟨_, rfl, rfl⟩
  · go_enter Try.func25, Try.ntmps25
    go_wp2
    go_loop [1, 5] (fun v i => ∃ (k : Nat) (z : Int), k ≤ ss.length ∧ i = .int .i64 k ∧ v = .int .i64 z) (fun _ i => ss.length - (intOf i).toNat)
    case atStart => exact ⟨0, t, Nat.zero_le _, rfl, rfl⟩
    case round =>
      obtain ⟨k, z, hk, rfl, rfl⟩ := hrel
      by_cases hlt : k < ss.length
      · obtain ⟨b, off, rfl, hc⟩ := H.out k hlt
        obtain ⟨s, hs⟩ : ∃ s, s = ss[k] := ⟨_, rfl⟩
        rw [← hs] at hc
        clear hs H
        go_wp2
        · go_ret
          exact ⟨_, rfl, rfl⟩
        · go_ret
          exact ⟨_, rfl, rfl⟩
        · go_round
          case rel => exact ⟨k + 1, _, by omega, by go_num, rfl⟩
          case measure => simp [intOf]; omega
      · go_wp2
        go_ret
        exact ⟨_, rfl, rfl⟩

set_option maxRecDepth 20000 in
set_option maxHeartbeats 400000 in
theorem tooBig_any (a1 a2 a3 a4 a5 : Option Addr) (ks ds pk pv : List ByteArray) (n2 c1 c2 c3 c4 c5 : Nat) (x : Int) (w : World)
    (l1 : ks.length ≤ maxLen) (l3 : ds.length ≤ maxLen) (l4 : pk.length ≤ maxLen) (l5 : pv.length ≤ maxLen) (h1 : HS w a1 ks) (h3 : HS w a3 ds) (h4 : HS w a4 pk) (h5 : HS w a5 pv) :
    Calls Try.prog 12 #[.slice a1 ks.length c1, .slice a2 n2 c2, .slice a3 ds.length c3, .slice a4 pk.length c4, .slice a5 pv.length c5, .int .i64 x] w fun e w' => BoolPost True w e w' := by
  have H1 : Hid (HS w a1 ks) := h1
  have H3 : Hid (HS w a3 ds) := h3
  have H4 : Hid (HS w a4 pk) := h4
  have H5 : Hid (HS w a5 pv) := h5
  clear h1 h3 h4 h5
  by_cases hb : 65536 < ks.length ∨ 65536 < n2 ∨ 65536 < ds.length ∨ 65536 < pk.length ∨ 65536 < pv.length
  · rcases hb with hb | hb | hb | hb | hb
    all_goals
      go_enter Try.func12, Try.ntmps12
      go_wp2_with fail
    all_goals
      go_ret
      exact ⟨true, rfl, fun _ => trivial, rfl⟩
  · have hb1 : ks.length ≤ 65536 := by omega
    have hb2 : n2 ≤ 65536 := by omega
    have hb3 : ds.length ≤ 65536 := by omega
    have hb4 : pk.length ≤ 65536 := by omega
    have hb5 : pv.length ≤ 65536 := by omega
    clear hb
    go_enter Try.func12, Try.ntmps12
    go_wp2_with fail
    refine (stringsBytes_any a1 ks c1 _ _ l1 H1.out).mono ?_
    rintro e w1 ⟨r1, rfl, hw⟩
    obtain rfl : w = w1 := hw.symm
    go_wp2_with fail
    refine (stringsBytes_any a3 ds c3 _ _ l3 H3.out).mono ?_
    rintro e w1 ⟨r3, rfl, hw⟩
    obtain rfl : w = w1 := hw.symm
    go_wp2_with fail
    refine (stringsBytes_any a4 pk c4 _ _ l4 H4.out).mono ?_
    rintro e w1 ⟨r4, rfl, hw⟩
    obtain rfl : w = w1 := hw.symm
    go_wp2_with fail
    refine (stringsBytes_any a5 pv c5 _ _ l5 H5.out).mono ?_
    rintro e w1 ⟨r5, rfl, hw⟩
    obtain rfl : w = w1 := hw.symm
    go_wp2_with fail
    go_ret
    exact ⟨_, rfl, fun _ => trivial, rfl⟩

set_option maxRecDepth 20000 in
set_option maxHeartbeats 400000 in
theorem shaped_any (a1 a2 a3 a4 a5 : Option Addr) (ks : List ByteArray) (n2 n3 n4 n5 c1 c2 c3 c4 c5 : Nat) (w : World) (l1 : ks.length ≤ maxLen) (h1 : HS w a1 ks) :
    Calls Try.prog 13 #[.slice a1 ks.length c1, .slice a2 n2 c2, .slice a3 n3 c3, .slice a4 n4 c4, .slice a5 n5 c5] w fun e w' => BoolPost (n2 = ks.length ∧ n3 = ks.length ∧ n5 = n4) w e w' := by
  unfold maxLen at l1
  have H1 : Hid (HS w a1 ks) := h1
  clear h1
  by_cases e2 : n2 = ks.length
  · subst e2
    by_cases e3 : n3 = ks.length
    · subst e3
      by_cases e5 : n5 = n4
      · subst e5
        go_enter Try.func13, Try.ntmps13
        go_wp2
        go_loop [11] (fun i => ∃ (k : Nat), k ≤ ks.length ∧ i = .int .i64 k) (fun i => ks.length - (intOf i).toNat)
        case atStart => exact ⟨0, Nat.zero_le _, rfl⟩
        case round =>
          obtain ⟨k, hk, rfl⟩ := hrel
          by_cases hlt : k < ks.length
          · obtain ⟨b, off, rfl, hc⟩ := H1.out k hlt
            obtain ⟨s, hs⟩ : ∃ s, s = ks[k] := ⟨_, rfl⟩
            rw [← hs] at hc
            clear hs H1
            go_wp2
            · go_ret
              exact ⟨false, rfl, by simp, rfl⟩
            · go_round
              case rel => exact ⟨k + 1, by omega, by go_num⟩
              case measure => simp [intOf]; omega
          · go_wp2
            go_ret
            exact ⟨true, rfl, fun _ => by simp, rfl⟩
      · have q5 : ((n5 : Int) != (n4 : Int)) = true := by simp; omega
        clear e5
        go_enter Try.func13, Try.ntmps13
        go_wp2
        go_ret
        exact ⟨false, rfl, by simp, rfl⟩
    · have q3 : ((n3 : Int) != (ks.length : Int)) = true := by simp; omega
      clear e3
      go_enter Try.func13, Try.ntmps13
      go_wp2
      go_ret
      exact ⟨false, rfl, by simp, rfl⟩
  · have q2 : ((n2 : Int) != (ks.length : Int)) = true := by simp; omega
    clear e2
    go_enter Try.func13, Try.ntmps13
    go_wp2
    go_ret
    exact ⟨false, rfl, by simp, rfl⟩
end Go.Proofs.Qxb6604503a
