/-
  The walks of seat b6604357aF, fourth part: MarshalBinary, AppendMarshaled.
-/
import Derived.Test.Qxb6604357aFmtWalkC
namespace Go.Proofs.Qxb6604357aFmt
open Go.RowKit

/-- What MarshalBinary leaves: the identifier's bytes, in a slice of the call's own; no error. -/
def MarshalPost (o : Nat) (s : ByteArray) (w : World) (e : Ending) (w' : World) : Prop :=
  ∃ v, e = .returned (.tuple #[v, .nilIface]) ∧ w'.ownsRow w.heap.size 5 1 v (inner o s).length (Lib.byteCells (inner o s)) ∧ Below w.heap.size w w'

/-- What the loop of MarshalBinary carries: the box of the identifier at block B; v holds the opening and k numbers. -/
structure MarshalRel (o : Nat) (s : ByteArray) (w wr : World) (v : Value) (k : Nat) : Prop where
  own : wr.ownsRow (w.heap.size + 1) 5 1 v (Lib.uvarint o ++ enc s k).length (Lib.byteCells (Lib.uvarint o ++ enc s k))
  c0 : wr.cell? ⟨w.heap.size, 0, none⟩ = some (.int .u64 o)
  c1 : wr.cell? ⟨w.heap.size, 1, none⟩ = some (.string s)
  size : w.heap.size + 1 ≤ wr.heap.size
  below : Below w.heap.size w wr

theorem MarshalRel.keep {o : Nat} {s : ByteArray} {w wr w1 : World} {v : Value} {k : Nat} (h : MarshalRel o s w wr v k) (hb : Below wr.heap.size wr w1) : MarshalRel o s w w1 v k := by
  have hs := h.size
  exact ⟨ownsRow_below h.own hb, (hb.cell (p := ⟨w.heap.size, 0, none⟩) (by show w.heap.size < _; omega)).trans h.c0, (hb.cell (p := ⟨w.heap.size, 1, none⟩) (by show w.heap.size < _; omega)).trans h.c1, Nat.le_trans hs hb.size, h.below.trans (hb.mono (by omega))⟩

theorem MarshalRel.next {o : Nat} {s : ByteArray} {w wr w1 : World} {v v1 : Value} {k n m : Nat} {xs : List Value} (h : MarshalRel o s w wr v k) (hg : Grew wr w1 v v1 m n)
    (hn : n = (Lib.uvarint o ++ enc s (k + 1)).length) (hx : xs = Lib.byteCells (Lib.uvarint o ++ enc s (k + 1))) (ho : w1.ownsRow 0 5 1 v1 n xs) : MarshalRel o s w w1 v1 (k + 1) := by
  have hs := h.size
  have hv := ownsRow_owner h.own
  have hb := hg.below hv hs
  subst hn; subst hx
  exact ⟨ownsRow_base ho (hg.own hv hs), (hb.cell (p := ⟨w.heap.size, 0, none⟩) (by show w.heap.size < _; omega)).trans h.c0, (hb.cell (p := ⟨w.heap.size, 1, none⟩) (by show w.heap.size < _; omega)).trans h.c1, Nat.le_trans hs hb.size, h.below.trans (hb.mono (by omega))⟩

theorem MarshalRel.start {o : Nat} {s : ByteArray} {w w1 : World} {v1 : Value} {n : Nat} {xs : List Value} {box : Obj} (hbox : box = .cells #[.int .u64 o, .string s] 38)
    (hg : Grew (w.alloc box) w1 (.slice none 0 0) v1 0 n) (hn : n = (Lib.uvarint o).length) (hx : xs = Lib.byteCells (Lib.uvarint o)) (ho : w1.ownsRow 0 5 1 v1 n xs) : MarshalRel o s w w1 v1 0 := by
  subst hbox; subst hn; subst hx
  have hv : ∀ k, (Value.slice none 0 0).ownBlock = some k → w.heap.size + 1 ≤ k := fun k hk => by simp [Value.ownBlock] at hk
  have hz : w.heap.size + 1 ≤ (w.alloc (.cells #[.int .u64 o, .string s] 38)).heap.size := by simp
  have hb := hg.below hv hz
  refine ⟨by simpa [enc] using ownsRow_base ho (hg.own hv hz), ?_, ?_, Nat.le_trans hz hb.size, ((Below.refl _ w).alloc (Nat.le_refl _) _).trans (hb.mono (by omega))⟩
  · exact (hb.cell (p := ⟨w.heap.size, 0, none⟩) (by show w.heap.size < _; omega)).trans (cell_of_row _ _ 0 _ 38 (0, 0) (heap_alloc_new w _))
  · exact (hb.cell (p := ⟨w.heap.size, 1, none⟩) (by show w.heap.size < _; omega)).trans (cell_of_row _ _ 1 _ 38 (0, 0) (heap_alloc_new w _))

set_option maxRecDepth 20000 in
set_option maxHeartbeats 400000 in
theorem marshal_any (o : Nat) (s : ByteArray) (w : World) (ho : o < 18446744073709551616) (hs : s.size ≤ 1048576) :
    Calls Tryf.prog 38 #[.agg #[.int .u64 o, .string s]] w fun e w' => MarshalPost o s w e w' := by
  go_enter Tryf.func38, Tryf.ntmps38
  go_wp2_with fail
  refine (appendUvarint_any 0 o ho (.slice none 0 0) [] _ (World.ownsRow_nil _ _ _ _) (by omega)).mono ?_
  rintro e w1 ⟨v1, rfl, hown, hgr⟩
  have R := MarshalRel.start rfl hgr (by simp) (by simp) hown
  have r0 := R.c0
  have r1 := R.c1
  have HO : Hid (o < 18446744073709551616) := ho
  clear hown hgr ho
  go_wp2_with fail
  refine (depth_any o s _ hs).mono ?_
  rintro e w2 ⟨rfl, hw2⟩
  have R2 := R.keep (w1 := w2) (by rw [hw2]; exact (Below.refl _ _).alloc (Nat.le_refl _) _)
  clear hw2 R r0 r1
  go_wp2_with fail
  go_loopw [4, 11] (fun v i wr => ∃ k : Nat, k ≤ s.size / 8 ∧ i = .int .i64 k ∧ MarshalRel o s w wr v k) (fun _ i _ => s.size / 8 - (intOf i).toNat)
  case atStart => exact ⟨0, Nat.zero_le _, rfl, R2⟩
  case round =>
    obtain ⟨k, hk, rfl, R3⟩ := hrel
    clear R2
    by_cases hlt : k < s.size / 8
    · have h8k : 8 * k + 8 ≤ s.size := by omega
      have r0 := R3.c0
      have r1 := R3.c1
      go_wp2_with fail
      refine (number_any o k s _ hs h8k).mono ?_
      rintro e w3 ⟨rfl, hb3⟩
      have R4 := R3.keep hb3
      have hlen : (Lib.uvarint o ++ enc s k).length + 10 ≤ 8388608 := by
        have := Lib.uvarint_length64 HO.out
        have := enc_le10 s k
        rw [List.length_append]; omega
      clear hb3 R3 r0 r1
      go_wp2_with fail
      refine (appendUvarint_any _ (num s (8 * k)) (num_lt s _) _ _ _ (ownsRow_base R4.own (fun _ _ => Nat.zero_le _)) hlen).mono ?_
      rintro e w4 ⟨v4, rfl, hown4, hgr4⟩
      have R5 := R4.next hgr4 (by simp [enc, Nat.add_assoc]) (by simp [enc, Lib.byteCells_append]) hown4
      clear hown4 hgr4 R4 hlen
      go_wp2
      go_roundw
      case rel => exact ⟨k + 1, by omega, by go_num, R5⟩
      case measure => simp [intOf]; omega
    · have hke : k = s.size / 8 := by omega
      have HK : Hid (k = s.size / 8) := hke
      clear hke
      have hz : w.heap.size ≤ w.heap.size + 1 := by omega
      go_wp2
      go_ret2
      have R6 := HK.out ▸ R3
      exact ⟨_, rfl, ownsRow_base R6.own (fun k hk => Nat.le_trans hz (ownsRow_owner R6.own k hk)), R6.below⟩

/-- What is laid for an identifier: its length, then its bytes. -/
def sized (o : Nat) (s : ByteArray) : List UInt8 := Lib.uvarint (inner o s).length ++ inner o s

theorem method_marshal (v : Value) (w : World) : (method 202 38 v "MarshalBinary").run Tryf.prog w = .ok (38, v) w := by kernel_rfl

set_option maxRecDepth 20000 in
set_option maxHeartbeats 400000 in
theorem appendMarshaled_any (o : Nat) (s : ByteArray) (ho : o < 18446744073709551616) (hs : s.size ≤ 1048576) (n : Nat) (sv : Value) (xs : List Value) (w : World) (hown : w.ownsRow 0 5 1 sv n xs) (hlim : n ≤ 1048576) :
    Calls Tryf.prog 18 #[sv, .iface 38 (.agg #[.int .u64 o, .string s])] w fun e w' => AppPost w sv n (n + (sized o s).length) (xs ++ Lib.byteCells (sized o s)) e w' := by
  have hm := method_marshal
  have hil := inner_len o s ho
  have hip : 0 < (inner o s).length := by have := Lib.uvarint_pos o; simp only [inner, List.length_append]; omega
  go_enter Tryf.func18, Tryf.ntmps18
  go_wp2_with fail
  refine (marshal_any o s _ ho hs).mono ?_
  rintro e w1 ⟨pv, rfl, hownp, hb⟩
  have hown1 := ownsRow_below hown hb
  have hne : pv.ownBlock ≠ sv.ownBlock := by
    obtain ⟨g, cap, hv, _⟩ := owns_shape (ownsRow_base (B := 0) hownp (fun _ _ => Nat.zero_le _)) hip
    have h1 := ownsRow_owner hownp g (by rw [hv]; rfl)
    rw [hv]
    intro e
    have := (hown.lt g e.symm).2
    omega
  go_wp2_with fail
  refine (appendSized_any n _ sv pv xs _ _ hown1 (ownsRow_base hownp (fun _ _ => Nat.zero_le _)) hip hne (by omega)).mono ?_
  rintro e w2 ⟨v2, rfl, hown2, hgr⟩
  go_wp2
  go_ret
  refine ⟨v2, rfl, ?_, ?_⟩
  · simpa [sized, Lib.byteCells_append, Nat.add_assoc] using hown2
  · have e : n + (sized o s).length = n + (Lib.uvarint (inner o s).length).length + (inner o s).length := by simp [sized, Nat.add_assoc]
    rw [e]
    exact Grew.trans ⟨⟨hb.os, hb.tape, hb.output, hb.size, fun k hk _ => hb.block k hk⟩, Or.inl rfl, Nat.le_refl _, fun g _ hg j _ => hb.cell (p := ⟨g, j, none⟩) hg⟩ hgr
end Go.Proofs.Qxb6604357aFmt
