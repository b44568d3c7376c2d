/-
  The walks of seat b6604503a, fourth part: the clones.
-/
import Derived.Test.Qxb6604503aWalkA
namespace Go.Proofs.Qxb6604503a
open Go.RowKit

theorem info9 : (Try.prog.info? 9).map (fun i => (i.zero, i.size, i.bytes)) = some (some (.string ByteArray.empty), 1, 16) := by kernel_rfl
theorem info4 : (Try.prog.info? 4).map (fun i => (i.zero, i.size, i.bytes)) = some (some (.bool false), 1, 1) := by kernel_rfl

/-- What a clone leaves: a slice that holds the same; nothing old has turned. -/
def CloneS (ss : List ByteArray) (w : World) (e : Ending) (w' : World) : Prop := ∃ a cap, e = .returned (.slice a ss.length cap) ∧ HS w' a ss ∧ Below w.heap.size w w'
def CloneB (ss : List Bool) (w : World) (e : Ending) (w' : World) : Prop := ∃ a cap, e = .returned (.slice a ss.length cap) ∧ HB w' a ss ∧ Below w.heap.size w w'

theorem set_snoc {α : Type} (f : α → Value) (zs : List α) (k : Nat) (h : k < zs.length) (ys : List Value) (hy : ys.length = zs.length) (hk : ys.take k = (zs.map f).take k) :
    (ys.set k (f zs[k])).take (k + 1) = (zs.map f).take (k + 1) := by
  have h1 : k < (ys.set k (f zs[k])).length := by simpa [hy] using h
  have h2 : k < (zs.map f).length := by simpa using h
  rw [List.take_succ_eq_append_getElem h1, List.take_succ_eq_append_getElem h2, List.take_set_of_le (Nat.le_refl _), hk]
  simp

theorem hs_of_own {w : World} {base g n cap : Nat} {ss : List ByteArray} (h : w.ownsRow base 9 1 (.slice (some ⟨g, 0, none⟩) n cap) n (ss.map Value.string)) : HS w (some ⟨g, 0, none⟩) ss := by
  intro i hi
  refine ⟨g, 0, rfl, ?_⟩
  rw [Nat.zero_add, h.cellAt i (by have := h.1; simp at this; omega)]
  simp [hi]
theorem hb_of_own {w : World} {base g n cap : Nat} {ss : List Bool} (h : w.ownsRow base 4 1 (.slice (some ⟨g, 0, none⟩) n cap) n (ss.map Value.bool)) : HB w (some ⟨g, 0, none⟩) ss := by
  intro i hi
  refine ⟨g, 0, rfl, ?_⟩
  rw [Nat.zero_add, h.cellAt i (by have := h.1; simp at this; omega)]
  simp [hi]

theorem cloneS_nil (w : World) : Calls Try.prog 14 #[.slice none 0 0] w fun e w' => CloneS [] w e w' := by
  have q := fun (w : World) (a : Option Addr) (n c n' c' : Nat) => Lib.run_eql_slice_nil (P := Try.prog) w 27 9 a n c n' c' Try.underlying27
  go_enter Try.func14, Try.ntmps14
  go_wp2
  go_ret
  exact ⟨none, 0, rfl, fun i hi => by simp at hi, Below.refl _ _⟩

set_option maxRecDepth 20000 in
set_option maxHeartbeats 400000 in
theorem cloneS_some (x : Addr) (ss : List ByteArray) (cap : Nat) (w : World) (hl : ss.length ≤ 1048576) (h : HS w (some x) ss) :
    Calls Try.prog 14 #[.slice (some x) ss.length cap] w fun e w' => CloneS ss w e w' := by
  have q := fun (w : World) (a : Option Addr) (n c n' c' : Nat) => Lib.run_eql_slice_nil (P := Try.prog) w 27 9 a n c n' c' Try.underlying27
  obtain ⟨i0, hi, hz0, hz1, hz2⟩ := info_parts info9
  have H : Hid (HS w (some x) ss) := h
  clear h
  go_enter Try.func14, Try.ntmps14
  go_wp2_with (at_make; refine wpList_make_full w rfl _ _ 27 rfl w.heap.size 9 i0 (.string ByteArray.empty) 1 Try.underlying27 hi hz0 hz1 .i64 .i64 _ _ ss.length rfl rfl rfl rfl (by rw [hz2]; omega) (by unfold maxLen; omega) (Nat.le_refl _) ?_)
  intro w1 hown hgrow
  go_wp2
  go_loopw [4] (fun i wr => ∃ (k : Nat) (ys : List Value), k ≤ ss.length ∧ i = .int .i64 k ∧ wr.ownsRow w.heap.size 9 1 (.slice (some ⟨w.heap.size, 0, none⟩) ss.length ss.length) ss.length ys ∧ ys.take k = (ss.map Value.string).take k ∧ Below w.heap.size w wr) (fun i _ => ss.length - (intOf i).toNat)
  case atStart => exact ⟨0, _, Nat.zero_le _, rfl, hown, rfl, (Below.refl _ _).grown hgrow (Nat.le_refl _) (by simp)⟩
  case round =>
    obtain ⟨k, ys, hk, rfl, hownr, htk, hb⟩ := hrel
    clear hown hgrow
    by_cases hlt : k < ss.length
    · obtain ⟨b, off, hx, hcc⟩ := H.out k hlt
      obtain rfl : x = ⟨b, off, none⟩ := by injection hx
      have hbw : b < w.heap.size := World.block_lt_of_cell? _ _ hcc
      have hck : wr.cell? ⟨b, off + k, none⟩ = some (.string ss[k]) := (hb.cell (p := ⟨b, off + k, none⟩) hbw).trans hcc
      have hfr := hownr.frozenAt k
      have hlen : ys.length = ss.length := by simpa using hownr.1
      have hcel := hownr.cellAt k (by omega)
      rw [List.getElem?_eq_getElem (by omega)] at hcel
      have HT : Hid (ys.take k = (ss.map Value.string).take k) := htk
      clear hcc hx htk H
      go_wp2
      go_roundw
      case rel => first | exact ⟨k + 1, ys.set k (.string ss[k]), by omega, by go_num, (hownr.stored k _).1, set_snoc Value.string ss k hlt ys hlen HT.out, hb.setCell (Nat.le_refl _) _⟩ | ((repeat apply Exists.intro); exact ⟨⟨k + 1, ys.set k (.string ss[k]), by omega, by go_num, (hownr.stored k _).1, set_snoc Value.string ss k hlt ys hlen HT.out, hb.setCell (Nat.le_refl _) _⟩, rfl⟩)
      case measure => simp [intOf]; omega
    · have hke : k = ss.length := by omega
      have hlen : ys.length = ss.length := by simpa using hownr.1
      have hys : Hid (ys = ss.map Value.string) := by
        rw [hke, List.take_of_length_le (by omega), List.take_of_length_le (by simp)] at htk; exact htk
      clear htk hke
      go_wp2
      go_ret
      exact ⟨_, _, rfl, hs_of_own (hys.out ▸ hownr), hb⟩

theorem cloneB_nil (w : World) : Calls Try.prog 15 #[.slice none 0 0] w fun e w' => CloneB [] w e w' := by
  have q := fun (w : World) (a : Option Addr) (n c n' c' : Nat) => Lib.run_eql_slice_nil (P := Try.prog) w 28 4 a n c n' c' Try.underlying28
  go_enter Try.func15, Try.ntmps15
  go_wp2
  go_ret
  exact ⟨none, 0, rfl, fun i hi => by simp at hi, Below.refl _ _⟩

set_option maxRecDepth 20000 in
set_option maxHeartbeats 400000 in
theorem cloneB_some (x : Addr) (ss : List Bool) (cap : Nat) (w : World) (hl : ss.length ≤ 1048576) (h : HB w (some x) ss) :
    Calls Try.prog 15 #[.slice (some x) ss.length cap] w fun e w' => CloneB ss w e w' := by
  have q := fun (w : World) (a : Option Addr) (n c n' c' : Nat) => Lib.run_eql_slice_nil (P := Try.prog) w 28 4 a n c n' c' Try.underlying28
  obtain ⟨i0, hi, hz0, hz1, hz2⟩ := info_parts info4
  have H : Hid (HB w (some x) ss) := h
  clear h
  go_enter Try.func15, Try.ntmps15
  go_wp2_with (at_make; refine wpList_make_full w rfl _ _ 28 rfl w.heap.size 4 i0 (.bool false) 1 Try.underlying28 hi hz0 hz1 .i64 .i64 _ _ ss.length rfl rfl rfl rfl (by rw [hz2]; omega) (by unfold maxLen; omega) (Nat.le_refl _) ?_)
  intro w1 hown hgrow
  go_wp2
  go_loopw [4] (fun i wr => ∃ (k : Nat) (ys : List Value), k ≤ ss.length ∧ i = .int .i64 k ∧ wr.ownsRow w.heap.size 4 1 (.slice (some ⟨w.heap.size, 0, none⟩) ss.length ss.length) ss.length ys ∧ ys.take k = (ss.map Value.bool).take k ∧ Below w.heap.size w wr) (fun i _ => ss.length - (intOf i).toNat)
  case atStart => exact ⟨0, _, Nat.zero_le _, rfl, hown, rfl, (Below.refl _ _).grown hgrow (Nat.le_refl _) (by simp)⟩
  case round =>
    obtain ⟨k, ys, hk, rfl, hownr, htk, hb⟩ := hrel
    clear hown hgrow
    by_cases hlt : k < ss.length
    · obtain ⟨b, off, hx, hcc⟩ := H.out k hlt
      obtain rfl : x = ⟨b, off, none⟩ := by injection hx
      have hbw : b < w.heap.size := World.block_lt_of_cell? _ _ hcc
      have hck : wr.cell? ⟨b, off + k, none⟩ = some (.bool ss[k]) := (hb.cell (p := ⟨b, off + k, none⟩) hbw).trans hcc
      have hfr := hownr.frozenAt k
      have hlen : ys.length = ss.length := by simpa using hownr.1
      have hcel := hownr.cellAt k (by omega)
      rw [List.getElem?_eq_getElem (by omega)] at hcel
      have HT : Hid (ys.take k = (ss.map Value.bool).take k) := htk
      clear hcc hx htk H
      go_wp2
      go_roundw
      case rel => first | exact ⟨k + 1, ys.set k (.bool ss[k]), by omega, by go_num, (hownr.stored k _).1, set_snoc Value.bool ss k hlt ys hlen HT.out, hb.setCell (Nat.le_refl _) _⟩ | ((repeat apply Exists.intro); exact ⟨⟨k + 1, ys.set k (.bool ss[k]), by omega, by go_num, (hownr.stored k _).1, set_snoc Value.bool ss k hlt ys hlen HT.out, hb.setCell (Nat.le_refl _) _⟩, rfl⟩)
      case measure => simp [intOf]; omega
    · have hke : k = ss.length := by omega
      have hlen : ys.length = ss.length := by simpa using hownr.1
      have hys : Hid (ys = ss.map Value.bool) := by
        rw [hke, List.take_of_length_le (by omega), List.take_of_length_le (by simp)] at htk; exact htk
      clear htk hke
      go_wp2
      go_ret
      exact ⟨_, _, rfl, hb_of_own (hys.out ▸ hownr), hb⟩

theorem cloneS_any (a : Option Addr) (ss : List ByteArray) (cap : Nat) (w : World) (hl : ss.length ≤ 1048576) (hn : a = none → ss = [] ∧ cap = 0) (h : HS w a ss) :
    Calls Try.prog 14 #[.slice a ss.length cap] w fun e w' => CloneS ss w e w' := by
  cases a with
  | none => obtain ⟨rfl, rfl⟩ := hn rfl; exact cloneS_nil w
  | some x => exact cloneS_some x ss cap w hl h
theorem cloneB_any (a : Option Addr) (ss : List Bool) (cap : Nat) (w : World) (hl : ss.length ≤ 1048576) (hn : a = none → ss = [] ∧ cap = 0) (h : HB w a ss) :
    Calls Try.prog 15 #[.slice a ss.length cap] w fun e w' => CloneB ss w e w' := by
  cases a with
  | none => obtain ⟨rfl, rfl⟩ := hn rfl; exact cloneB_nil w
  | some x => exact cloneB_some x ss cap w hl h
end Go.Proofs.Qxb6604503a
