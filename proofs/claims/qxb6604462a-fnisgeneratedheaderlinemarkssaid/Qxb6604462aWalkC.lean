/-
  The walks of seat b6604462a, third part: the law itself.
-/
import Derived.Test.Qxb6604462aWalkB
namespace Go.Proofs.Qxb6604462a
open Go.RowKit

/-- What the walk is told of a slice of integers that came in. -/
def IsRow (k : IntKind) (w : World) (a : Option Addr) (len cap : Nat) (zs : List Int) : Prop :=
  (a = none ∧ len = 0 ∧ cap = 0 ∧ zs = []) ∨
  ∃ x, a = some x ∧ len ≤ cap ∧ cap ≤ maxLen ∧ zs.length = cap ∧ (∀ i, i < zs.length → w.cell? (x.add i) = some (.int k (zs.getD i 0))) ∧ ∀ n ∈ zs, (Lit.int k n).wf = true

theorem IsRow.abs {k : IntKind} {w : World} {a : Option Addr} {len cap : Nat} {zs : List Int} (h : IsRow k w a len cap zs) :
    ∃ ys : List Int, ys.length = len ∧ ∀ i (hi : i < ys.length), ∃ b off, a = some ⟨b, off, none⟩ ∧ b < w.heap.size ∧ w.cell? ⟨b, off + i, none⟩ = some (.int k ys[i]) := by
  rcases h with ⟨_, rfl, _, _⟩ | ⟨x, rfl, h1, h2, h3, h4, _⟩
  · exact ⟨[], rfl, fun i hi => by simp at hi⟩
  · have hl : (zs.take len).length = len := by rw [List.length_take]; omega
    refine ⟨zs.take len, hl, fun i hi => ?_⟩
    obtain ⟨b, off, rfl, hcc⟩ := ints_at h4 (by omega)
    have hc := hcc i (by omega)
    refine ⟨b, off, rfl, World.block_lt_of_cell? _ _ hc, ?_⟩
    rw [hc]
    simp [show i < zs.length from by omega]

/-- What the law leaves: true; nothing old has turned. -/
def LawPost (w : World) (e : Ending) (w' : World) : Prop := e = .returned (.bool true) ∧ Below w.heap.size w w'

/-- The buffer while it is filled: l bytes laid. -/
structure Fill (w wr : World) (n N : Nat) (xs : List Value) : Prop where
  own : wr.ownsRow w.heap.size 5 1 (.slice (some ⟨w.heap.size, 0, none⟩) n N) n xs
  below : Below w.heap.size w wr

theorem Fill.next {w wr w1 : World} {n N : Nat} {xs ys : List Value} (f : Fill w wr n N xs) {o : Obj} (h1 : w1.ownsRow w.heap.size 5 1 (.slice (some ⟨w.heap.size, 0, none⟩) (n + 1) N) (n + 1) ys) (h2 : (wr.alloc o).grownBy w1 (some w.heap.size)) : Fill w w1 (n + 1) N ys :=
  ⟨h1, (f.below.alloc f.below.size o).grown h2 (by have := f.below.size; simp; omega) (fun k hk => by cases hk; exact Nat.le_refl _)⟩

theorem header_snoc (k : Nat) (hk : k < 46) : Lib.byteCells (header.take k) ++ [.int .u8 (header[k]'hk).toNat] = Lib.byteCells (header.take (k + 1)) := by
  rw [List.take_succ_eq_append_getElem (show k < header.length from hk), Lib.byteCells_append]
  rfl

theorem Fill.header {w wr w1 : World} {k N : Nat} (f : Fill w wr k N (Lib.byteCells (header.take k))) (hk : k < 46) {c : UInt8} {o : Obj}
    (h1 : w1.ownsRow w.heap.size 5 1 (.slice (some ⟨w.heap.size, 0, none⟩) (k + 1) N) (k + 1) (Lib.byteCells (header.take k) ++ [.int .u8 (c.toNat : Int)])) (hc : c = header[k]'hk) (h2 : (wr.alloc o).grownBy w1 (some w.heap.size)) :
    Fill w w1 (k + 1) N (Lib.byteCells (Qxb6604462a.header.take (k + 1))) := by
  rw [hc, header_snoc k hk] at h1
  exact f.next h1 h2

/-- The header, then the first k numbers of the body. -/
def bufCells (ys : List Int) (k : Nat) : List Value := Lib.byteCells header ++ (ys.take k).map (Value.int .u8)

theorem Fill.body {w wr w1 : World} {k N : Nat} {ys : List Int} (f : Fill w wr (46 + k) N (bufCells ys k)) (hk : k < ys.length) {o : Obj}
    (h1 : w1.ownsRow w.heap.size 5 1 (.slice (some ⟨w.heap.size, 0, none⟩) (46 + k + 1) N) (46 + k + 1) (bufCells ys k ++ [.int .u8 ys[k]])) (h2 : (wr.alloc o).grownBy w1 (some w.heap.size)) :
    Fill w w1 (46 + (k + 1)) N (bufCells ys (k + 1)) := by
  have e : bufCells ys (k + 1) = bufCells ys k ++ [.int .u8 ys[k]] := by
    unfold bufCells
    rw [List.take_succ_eq_append_getElem hk, List.map_append, List.append_assoc]; rfl
  rw [e]
  exact f.next h1 h2

theorem Fill.start {w wr : World} {N : Nat} (ys : List Int) (f : Fill w wr 46 N (Lib.byteCells (Qxb6604462a.header.take 46))) : Fill w wr (46 + 0) N (bufCells ys 0) := by
  unfold bufCells
  rw [List.take_zero, List.map_nil, List.append_nil]
  exact f

theorem Fill.full {w wr : World} {ys : List Int} (f : Fill w wr (46 + ys.length) (46 + ys.length) (bufCells ys ys.length)) (hl : ys.length ≤ 1048576) : Buf w wr (46 + ys.length) Qxb6604462a.header (ys.map (Value.int .u8)) := by
  refine ⟨?_, f.below, rfl, by omega, by omega⟩
  have := f.own
  unfold bufCells at this
  rw [List.take_length] at this
  exact this

set_option maxRecDepth 20000 in
set_option maxHeartbeats 400000 in
theorem law_any (a : Option Addr) (len cap : Nat) (zs : List Int) (w : World) (hrow : IsRow .u8 w a len cap zs) :
    Calls Try.prog 3 #[.slice a len cap] w fun e w' => LawPost w e w' := by
  obtain ⟨i0, hi, hz0, hz1, hz2⟩ := info_parts info5
  obtain ⟨ys, rfl, hys⟩ := hrow.abs
  clear hrow
  by_cases hsum : ys.length ≤ 1048576
  · have HYS : Hid (∀ i (hi : i < ys.length), ∃ b off, a = some ⟨b, off, none⟩ ∧ b < w.heap.size ∧ w.cell? ⟨b, off + i, none⟩ = some (.int .u8 ys[i])) := hys
    clear hys
    go_enter Try.func3, Try.ntmps3
    go_wp2_with fail
    refine (zzBytes_yes a ys.length cap w hsum).mono ?_
    rintro e w' ⟨rfl, rfl⟩
    go_wp2_with (at_make; refine wpList_make_own w' rfl _ _ 22 rfl w'.heap.size 5 i0 (.int .u8 0) 1 Try.underlying22 hi hz0 hz1 .i64 .i64 _ (46 + ys.length) rfl rfl (by omega) (by rw [hz2]; omega) (by unfold maxLen; omega) (Nat.le_refl _) ?_)
    intro w1 hown hgrow
    have F0 : Fill w' w1 0 (46 + ys.length) [] := ⟨hown, (Below.refl _ _).grown hgrow (Nat.le_refl _) (by simp)⟩
    clear hown hgrow
    go_wp2
    go_loopw [3, 4] (fun v i wr => ∃ k : Nat, k ≤ 46 ∧ i = .int .i64 k ∧ v = .slice (some ⟨w'.heap.size, 0, none⟩) k (46 + ys.length) ∧ Fill w' wr k (46 + ys.length) (Lib.byteCells (header.take k))) (fun _ i _ => 46 - (intOf i).toNat)
    case atStart => exact ⟨0, by omega, rfl, rfl, F0⟩
    case round =>
      obtain ⟨k, hk, rfl, rfl, F⟩ := hrel
      clear F0
      by_cases hlt : k < 46
      · go_wp2_with (at_builtin; refine wpList_append_fits _ rfl _ _ 22 rfl w'.heap.size 5 i0 1 Try.underlying22 hi hz1 w'.heap.size k (46 + ys.length) _ rfl (F.own.alloc _) ⟨wr.heap.size, 0, none⟩ 1 1 [_] rfl rfl (cell_one_new _ _ _) (by intro u hu; simp at hu; subst hu; rfl) (by omega) ?_)
        intro w2 hown2 hgrow2
        have F2 := F.header hlt hown2 rfl hgrow2
        clear hown2 hgrow2 F
        go_wp2
        go_roundw
        case rel => exact ⟨k + 1, by omega, by go_num, rfl, F2⟩
        case measure => simp [intOf]; omega
      · obtain rfl : k = 46 := by omega
        have F1 := F.start ys
        clear F
        go_wp2
        go_loopw [3, 5] (fun v i wr => ∃ k : Nat, k ≤ ys.length ∧ i = .int .i64 k ∧ v = .slice (some ⟨w'.heap.size, 0, none⟩) (46 + k) (46 + ys.length) ∧ Fill w' wr (46 + k) (46 + ys.length) (bufCells ys k)) (fun _ i _ => ys.length - (intOf i).toNat)
        case atStart => exact ⟨0, by omega, rfl, rfl, F1⟩
        case round =>
          obtain ⟨k, hk, rfl, rfl, F⟩ := hrel
          clear F1
          by_cases hlt : k < ys.length
          · obtain ⟨b, off, rfl, hbw, hcc⟩ := HYS.out k hlt
            have hcx := (F.below.cell (p := ⟨b, off + k, none⟩) hbw).trans hcc
            go_wp2_with (at_builtin; refine wpList_append_fits _ rfl _ _ 22 rfl w'.heap.size 5 i0 1 Try.underlying22 hi hz1 w'.heap.size (46 + k) (46 + ys.length) _ rfl (F.own.alloc _) ⟨wr.heap.size, 0, none⟩ 1 1 [_] rfl rfl (cell_one_new _ _ _) (by intro u hu; simp at hu; subst hu; rfl) (by omega) ?_)
            intro w2 hown2 hgrow2
            have F2 := F.body hlt hown2 hgrow2
            clear hown2 hgrow2 F
            go_wp2
            go_roundw
            case rel => (repeat apply Exists.intro); exact ⟨⟨k + 1, by omega, by go_num, rfl, F2⟩, rfl⟩
            case measure => simp [intOf]; omega
          · have hke : k = ys.length := by omega
            rw [hke]
            rw [hke] at F
            have B0 := F.full hsum
            obtain ⟨N, hN⟩ : ∃ N, 46 + ys.length = N := ⟨_, rfl⟩
            rw [hN] at B0 ⊢
            clear F hke hlt hk hN
            go_wp2_with fail
            refine B0.gen.mono ?_
            rintro e w3 ⟨rfl, B1⟩
            have hgen : (header == header) = true := by decide
            rw [hgen]
            clear B0 hgen
            go_wp2
            go_loopw [6, 7, 8] (fun i _ _ wr => ∃ k : Nat, k ≤ 46 ∧ i = .int .i64 k ∧ Buf w' wr N header (ys.map (Value.int .u8))) (fun i _ _ _ => 46 - (intOf i).toNat)
            case atStart => exact ⟨0, by omega, rfl, B1⟩
            case round =>
              obtain ⟨k, hk, rfl, Bk⟩ := hrel
              clear B1
              by_cases hlt : k < 46
              · have hkl : k < header.length := hlt
                have hc := Bk.cell k hkl
                have hdk : decide ((k : Int) < 46) = true := by simp; omega
                have hself : Hid (header.set k (header[k]'hkl) = header) := List.set_getElem_self hkl
                have hkN : k < N := by have := Bk.N46; omega
                go_wp2_with fail
                go_loopw [8] (fun i wr => ∃ (d : Nat) (c : UInt8), 1 ≤ d ∧ d ≤ 256 ∧ i = .int .i64 d ∧ Buf w' wr N (header.set k c) (ys.map (Value.int .u8))) (fun i _ => 256 - (intOf i).toNat)
                case atStart => exact ⟨1, header[k]'hkl, by omega, by omega, rfl, by rw [hself.out]; exact Bk⟩
                case round =>
                  obtain ⟨d, c, hd1, hd2, rfl, Bd⟩ := hrel
                  clear Bk hc
                  by_cases hd : d < 256
                  · have hfr := Bd.frozen k
                    have hcd := Bd.cell k (by rw [List.length_set]; exact hkl)
                    obtain ⟨c2, hc2, hne⟩ := xor_other (header[k]'hkl) d hd1 hd
                    have Bs := Bd.store k hlt c2
                    rw [List.set_set] at Bs
                    go_wp2_with fail
                    refine Bs.gen.mono ?_
                    rintro e w4 ⟨rfl, B4⟩
                    rw [set_other header k hkl c2 hne]
                    clear Bs Bd hfr hcd hc2 hne
                    go_wp2
                    go_roundw
                    case rel => first | exact ⟨d + 1, c2, by omega, by omega, by go_num, B4⟩ | ((repeat apply Exists.intro); exact ⟨⟨d + 1, c2, by omega, by omega, by go_num, B4⟩, rfl⟩)
                    case measure => simp [intOf]; omega
                  · have hfr := Bd.frozen k
                    have hcd := Bd.cell k (by rw [List.length_set]; exact hkl)
                    have Be := Bd.store k hlt (header[k]'hkl)
                    rw [List.set_set, hself.out] at Be
                    go_wp2
                    go_roundw
                    case rel => exact ⟨k + 1, by omega, by go_num, Be⟩
                    case measure => simp [intOf]; omega
              · go_wp2
                go_ret
                exact ⟨rfl, Bk.below⟩
  · go_enter Try.func3, Try.ntmps3
    go_wp2_with fail
    refine (zzBytes_no a ys.length cap w hsum).mono ?_
    rintro e w' ⟨rfl, rfl⟩
    go_wp2_with fail
    go_ret
    exact ⟨rfl, Below.refl _ _⟩
end Go.Proofs.Qxb6604462a
