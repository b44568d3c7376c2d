/-
  The walks of seat b6604357aF, sixth part: the law itself.
-/
import Derived.Test.Qxb6604357aFmtWalkE
namespace Go.Proofs.Qxb6604357aFmt
open Go.RowKit

/-- What the walk is told of a slice of integers that came in. -/
def IsRow (k : IntKind) (w : World) (a : Option Addr) (len cap : Nat) (zs : List Int) : Prop :=
  (a = none ∧ len = 0 ∧ cap = 0 ∧ zs = []) ∨
  ∃ x, a = some x ∧ len ≤ cap ∧ cap ≤ maxLen ∧ zs.length = cap ∧ (∀ i, i < zs.length → w.cell? (x.add i) = some (.int k (zs.getD i 0))) ∧ ∀ n ∈ zs, (Lit.int k n).wf = true

theorem IsRow.len_le {k : IntKind} {w : World} {a : Option Addr} {len cap : Nat} {zs : List Int} (h : IsRow k w a len cap zs) : len ≤ maxLen := by
  rcases h with ⟨_, rfl, _⟩ | ⟨x, _, h1, h2, _⟩
  · exact Nat.zero_le _
  · exact Nat.le_trans h1 h2

theorem clone_any (a : Option Addr) (len cap : Nat) (zs : List Int) (w : World) (h : IsRow .u8 w a len cap zs) (hl : len ≤ 1048576) :
    Calls Tryf.prog 7 #[.slice a len cap] w fun e w' => ClonePost (zs.take len) w e w' := by
  rcases h with ⟨rfl, rfl, rfl, rfl⟩ | ⟨x, rfl, h1, h2, h3, h4, _⟩
  · exact clone_nil w
  · have hlen : (zs.take len).length = len := by rw [List.length_take]; omega
    have := clone_some x (zs.take len) cap w (by omega) (fun i hi => by
      rw [h4 i (by omega)]
      congr 2
      simp only [List.getD_eq_getElem?_getD, List.getElem?_take, if_pos (show i < len from by omega)])
    rw [hlen] at this
    exact this

/-- What the law's own reading wants of the world behind the append. -/
structure Behind (zs : List Int) (o : Nat) (s : ByteArray) (d : Bool) (w : World) (v : Value) (g cap : Nat) : Prop where
  own : w.ownsRow 0 5 1 (.slice (some ⟨g, 0, none⟩) (zs.length + (sized o s).length + 1) cap) (zs.length + (sized o s).length + 1) (zs.map (Value.int .u8) ++ (Lib.byteCells (sized o s) ++ [.int .u8 (flag d)]))
  old : v = .slice none 0 0 ∧ zs.length = 0 ∨ ∃ gb capb, v = .slice (some ⟨gb, 0, none⟩) zs.length capb ∧ ∀ j, j < zs.length → w.cell? ⟨gb, j, none⟩ = some (.int .u8 (zs.getD j 0))

theorem Behind.capLe {zs : List Int} {o : Nat} {s : ByteArray} {d : Bool} {w : World} {v : Value} {g cap : Nat} (h : Behind zs o s d w v g cap) : zs.length + (sized o s).length + 1 ≤ cap := by
  rcases h.own.2 with ⟨h0, _⟩ | ⟨g', cap', cur, h0, _, _, hnc, _⟩
  · simp at h0
  · simp only [Value.slice.injEq, Option.some.injEq, Addr.mk.injEq, and_true, true_and] at h0
    omega

theorem Behind.pre {zs : List Int} {o : Nat} {s : ByteArray} {d : Bool} {w : World} {v : Value} {g cap : Nat} (h : Behind zs o s d w v g cap) : ∀ j, j < zs.length → w.cell? ⟨g, j, none⟩ = some (.int .u8 (zs.getD j 0)) := by
  intro j hj
  rw [h.own.cellAt j (by omega), List.getElem?_append_left (by simpa using hj)]
  simp [hj]

theorem Behind.lies {zs : List Int} {o : Nat} {s : ByteArray} {d : Bool} {w : World} {v : Value} {g cap : Nat} (h : Behind zs o s d w v g cap) : Lies w g zs.length (sized o s) := by
  intro j u hj
  have hlt := (List.getElem?_eq_some_iff.1 hj).1
  rw [h.own.cellAt (zs.length + j) (by omega), List.getElem?_append_right (by simp), List.getElem?_append_left (by simpa [Lib.byteCells] using hlt)]
  simp [Lib.byteCells, hj]

theorem Behind.last {zs : List Int} {o : Nat} {s : ByteArray} {d : Bool} {w : World} {v : Value} {g cap : Nat} (h : Behind zs o s d w v g cap) : w.cell? ⟨g, zs.length + (sized o s).length, none⟩ = some (.int .u8 (flag d)) := by
  rw [h.own.cellAt _ (by omega), List.getElem?_append_right (by simp), List.getElem?_append_right (by simp [Lib.byteCells])]
  simp [Lib.byteCells]

theorem Behind.mk' {zs : List Int} {o : Nat} {s : ByteArray} {d : Bool} {w0 w1 w2 : World} {v v2 : Value}
    (hown : w1.ownsRow w0.heap.size 5 1 v zs.length (zs.map (Value.int .u8)))
    (hown2 : w2.ownsRow 0 5 1 v2 (zs.length + (sized o s).length + 1) (zs.map (Value.int .u8) ++ (Lib.byteCells (sized o s) ++ [.int .u8 (flag d)])))
    (hgr : Grew w1 w2 v v2 zs.length (zs.length + (sized o s).length + 1)) :
    ∃ g cap, v2 = .slice (some ⟨g, 0, none⟩) (zs.length + (sized o s).length + 1) cap ∧ Behind zs o s d w2 v g cap := by
  obtain ⟨g, cap, rfl, _⟩ := owns_shape hown2 (by omega)
  refine ⟨g, cap, rfl, hown2, ?_⟩
  rcases hown.2 with ⟨hv, hn⟩ | ⟨gb, capb, cur, rfl, hb, hgb, hnc, _, hcs, htake⟩
  · exact Or.inl ⟨hv, hn⟩
  · refine Or.inr ⟨gb, capb, rfl, fun j hj => ?_⟩
    rw [hgr.keep gb rfl (Array.getElem?_eq_some_iff.1 hgb).1 j hj, hown.cellAt j (by omega)]
    simp [hj]

/-- What the law leaves: true; nothing old has turned. -/
def LawPost (w : World) (e : Ending) (w' : World) : Prop := e = .returned (.bool true) ∧ Below w.heap.size w w'

theorem below_drewN {w w' : World} {B : Nat} (h : Below B w w') (n : Nat) : Below B w (w'.drewN n) := ⟨h.os, h.tape, h.output, h.size, h.block⟩

set_option maxRecDepth 20000 in
set_option maxHeartbeats 400000 in
theorem law_any (a : Option Addr) (len cap : Nat) (zs : List Int) (o : Nat) (s : ByteArray) (d : Bool) (w : World) (hrow : IsRow .u8 w a len cap zs) (ho : o < 18446744073709551616) (hs : s.size ≤ maxLen) :
    Calls Tryf.prog 3 #[.slice a len cap, .int .u64 o, .string s, .bool d] w fun e w' => LawPost w e w' := by
  have hlm := hrow.len_le
  by_cases hsum : len + s.size ≤ 1048576
  · go_enter Tryf.func3, Tryf.ntmps3
    go_wp2_with fail
    refine (zzBytes_yes a len cap o s d w hsum).mono ?_
    rintro e w' ⟨rfl, rfl⟩
    go_wp2_with fail
    refine (validID_any o s _ (by omega)).mono ?_
    rintro e w1 ⟨b, rfl, hb8, rfl⟩
    cases b
    · go_wp2_with fail
      go_ret
      exact ⟨rfl, Below.refl _ _⟩
    · have h8 : Hid (s.size % 8 = 0) := hb8 rfl
      clear hb8
      go_wp2_with fail
      refine (clone_any a len cap zs _ hrow (by omega)).mono ?_
      rintro e w2 ⟨v, rfl, hown, hbel⟩
      obtain ⟨ys, hys⟩ : ∃ ys, ys = zs.take len := ⟨_, rfl⟩
      rw [← hys] at hown
      have hyl : ys.length ≤ 1048576 := by rw [hys, List.length_take]; omega
      clear hys hrow
      go_wp2_with fail
      refine (zzAppendStep_any o s d ho (by omega) ys.length v _ _ (ownsRow_base hown (fun _ _ => Nat.zero_le _)) hyl).mono ?_
      rintro e w3 ⟨v3, rfl, hown3, hgr3⟩
      have hbel3 := hbel.trans (hgr3.below (ownsRow_owner hown) hbel.size)
      obtain ⟨g, cap3, hv3, BH⟩ := Behind.mk' hown hown3 hgr3
      have hil := inner_len o s ho
      have hul := Lib.uvarint_length64 (x := (inner o s).length) (by omega)
      have hsl : (sized o s).length = (Lib.uvarint (inner o s).length).length + (inner o s).length := by simp [sized]
      obtain ⟨N, hN⟩ : ∃ N, N = (sized o s).length := ⟨_, rfl⟩
      have hcap := BH.capLe
      rw [← hN] at hv3 hcap
      have hNb : ys.length + N + 1 ≤ 8388608 := by omega
      have HN : Hid (N = (sized o s).length) := hN
      have HSL : Hid ((sized o s).length = (Lib.uvarint (inner o s).length).length + (inner o s).length) := hsl
      clear hown hown3 hgr3 hbel hN hsl hil hul
      rw [hv3]
      clear hv3
      have hp : ∀ W, (∀ p, W.cell? p = w3.cell? p) → Calls Tryf.prog 9 #[.slice (some ⟨g, 0, none⟩) (ys.length + N + 1) cap3, v] W fun e w' => DrawnPost true W e w' := by
        intro W hW
        rcases BH.old with ⟨hv, _⟩ | ⟨gb, capb, hv, hcb⟩
        · rw [hv]; exact prefix_nil _ _ _ W
        · rw [hv]; exact prefix_some g gb _ cap3 capb ys W hNb (by omega) (fun j hj => (hW _).trans (BH.pre j hj)) (fun j hj => (hW _).trans (hcb j hj))
      have hvl : ∃ ab capb, v = .slice ab ys.length capb := by
        rcases BH.old with ⟨hv, h0⟩ | ⟨gb, capb, hv, _⟩
        · exact ⟨none, 0, by rw [hv, h0]⟩
        · exact ⟨_, _, hv⟩
      obtain ⟨ab, capb, hv⟩ := hvl
      rw [hv] at hp
      have BH2 : ∃ v, Behind ys o s d w3 v g cap3 := ⟨v, BH⟩
      clear BH
      rw [hv]
      clear hv
      have HP : Hid (∀ W, (∀ p, W.cell? p = w3.cell? p) → Calls Tryf.prog 9 #[.slice (some ⟨g, 0, none⟩) (ys.length + N + 1) cap3, .slice ab ys.length capb] W fun e w' => DrawnPost true W e w') := hp
      clear hp
      go_wp2_with fail
      refine (HP.out _ (fun _ => rfl)).mono ?_
      rintro e w4 ⟨rfl, m, rfl⟩
      go_wp2_with fail
      obtain ⟨v9, BH⟩ := BH2
      have HB : Hid (Behind ys o s d w3 v9 g cap3) := BH
      clear BH
      have HL : Hid (Lies (w3.drewN m) g ys.length (sized o s)) := fun j u hj => HB.out.lies j u hj
      refine (readSizedID_any g _ cap3 ys.length o s _ ho (by omega) h8.out hNb hcap (by have := HN.out; have := HSL.out; omega) HL.out).mono ?_
      rintro e w5 ⟨rfl, rfl⟩
      have hpos : ys.length + (Lib.uvarint (inner o s).length).length + (inner o s).length = ys.length + N := by have := HN.out; have := HSL.out; omega
      rw [hpos]
      clear hpos
      have hlast : (w3.drewN m).cell? ⟨g, ys.length + N, none⟩ = some (.int .u8 (flag d)) := by rw [HN.out]; exact HB.out.last
      cases d
      · go_wp2_with fail
        go_ret
        exact ⟨rfl, below_drewN hbel3 m⟩
      · go_wp2_with fail
        go_ret
        exact ⟨rfl, below_drewN hbel3 m⟩
  · have hx : ∀ W, Calls Tryf.prog 5 #[.slice a len cap, .int .u64 o, .string s, .bool d] W fun e w' => e = .returned (.bool false) ∧ w' = W := fun W => zzBytes_no a len cap o s d W hlm hs hsum
    go_enter Tryf.func3, Tryf.ntmps3
    go_wp2_with fail
    refine (hx _).mono ?_
    rintro e w' ⟨rfl, rfl⟩
    go_wp2_with fail
    go_ret
    exact ⟨rfl, Below.refl _ _⟩
end Go.Proofs.Qxb6604357aFmt
