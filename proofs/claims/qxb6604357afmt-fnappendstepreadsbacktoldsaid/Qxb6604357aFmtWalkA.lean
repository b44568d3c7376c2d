/-
  The walks of seat b6604357aF, first part: the law's own readers: bigEndianAt, zzBytes, validID, cloneBytes, readCanon, hasPrefix.
-/
import Derived.Test.Qxb6604357aFmtRows
import Derived.Test.Qxb6604357aFmtPlain
import Derived.WalkKit
import Derived.WalkSpells
import Derived.WalkLawsBesides
import Derived.OpenShut
import Derived.Deep.QuietTactic
import Derived.BigQuiet
import Derived.Maps.AppendAt
namespace Go.Proofs.Qxb6604357aFmt
open Go.RowKit

theorem ret_int {k : IntKind} {a b : Int} (h : a = b) : Ending.returned (.int k a) = .returned (.int k b) := by rw [h]
theorem val_int {k : IntKind} {a b : Int} (h : a = b) : Value.int k a = Value.int k b := by rw [h]

set_option maxHeartbeats 400000 in
theorem bigEndianAt_any (s : ByteArray) (i : Nat) (w : World) (hs : s.size ≤ maxLen) (hi : i + 8 ≤ s.size) :
    Calls Tryf.prog 14 #[.string s, .int .i64 i] w fun e w' => e = .returned (.int .u64 (num s i)) ∧ w' = w := by
  unfold maxLen at hs
  go_enter Tryf.func14, Tryf.ntmps14
  go_wp2
  go_loop [5, 6] (fun v j => ∃ k : Nat, k ≤ 8 ∧ j = .int .i64 k ∧ v = .int .u64 (be ((s.data.toList.drop i).take k))) (fun _ j => 8 - (intOf j).toNat)
  case atStart => exact ⟨0, Nat.zero_le _, rfl, rfl⟩
  case round =>
    obtain ⟨k, hk, rfl, rfl⟩ := hrel
    obtain ⟨v, hv⟩ : ∃ v, v = be ((s.data.toList.drop i).take k) := ⟨_, rfl⟩
    rw [← hv]
    have HV : Hid (v = be ((s.data.toList.drop i).take k)) := hv
    clear hv
    by_cases hlt : k < 8
    · go_wp2
      go_round
      case rel =>
        refine ⟨k + 1, by omega, by go_num, val_int ?_⟩
        have hv := HV.out
        have hvl : v < 256 ^ 7 := by rw [hv]; exact be_lt_le (Nat.le_trans (List.length_take_le _ _) (by omega))
        rw [or_step v _ hvl, drop_take_snoc s i k (by omega), be_snoc, ← hv]
      case measure => simp [intOf]; omega
    · obtain rfl : k = 8 := by omega
      go_wp2
      go_ret
      exact ⟨ret_int (by rw [HV.out]; rfl), rfl⟩

/-! zzBytes: are the two lengths together at most 1<<20? -/
theorem zzBytes_yes (a : Option Addr) (len cap : Nat) (o : Int) (s : ByteArray) (d : Bool) (w : World) (h : len + s.size ≤ 1048576) :
    Calls Tryf.prog 5 #[.slice a len cap, .int .u64 o, .string s, .bool d] w fun e w' => e = .returned (.bool true) ∧ w' = w := by
  go_enter Tryf.func5, Tryf.ntmps5
  go_wp2
  go_ret
  exact ⟨rfl, rfl⟩

theorem zzBytes_no (a : Option Addr) (len cap : Nat) (o : Int) (s : ByteArray) (d : Bool) (w : World) (hl : len ≤ maxLen) (hs : s.size ≤ maxLen) (h : ¬ len + s.size ≤ 1048576) :
    Calls Tryf.prog 5 #[.slice a len cap, .int .u64 o, .string s, .bool d] w fun e w' => e = .returned (.bool false) ∧ w' = w := by
  unfold maxLen at hl hs
  by_cases h1 : len ≤ 1048576
  · by_cases h2 : s.size ≤ 1048576
    · go_enter Tryf.func5, Tryf.ntmps5
      go_wp2
      go_ret
      exact ⟨rfl, rfl⟩
    · go_enter Tryf.func5, Tryf.ntmps5
      go_wp2
      go_ret
      exact ⟨rfl, rfl⟩
  · go_enter Tryf.func5, Tryf.ntmps5
    go_wp2
    go_ret
    exact ⟨rfl, rfl⟩

theorem bigEndianAt_at (s : ByteArray) (i : Nat) (j : Int) (hj : j = i) (w : World) (hs : s.size ≤ maxLen) (hi : i + 8 ≤ s.size) :
    Calls Tryf.prog 14 #[.string s, .int .i64 j] w fun e w' => e = .returned (.int .u64 (num s i)) ∧ w' = w := by
  subst hj; exact bigEndianAt_any s i w hs hi

/-- What validID leaves: a bool; where it is true the path is whole numbers. -/
def ValidPost (s : ByteArray) (w : World) (e : Ending) (w' : World) : Prop := ∃ b : Bool, e = .returned (.bool b) ∧ (b = true → s.size % 8 = 0) ∧ w' = w
theorem validID_any (o : Nat) (s : ByteArray) (w : World) (hs : s.size ≤ 1048576) :
    Calls Tryf.prog 6 #[.int .u64 o, .string s] w fun e w' => ValidPost s w e w' := by
  have hs0 : s.size ≤ maxLen := by unfold maxLen; omega
  by_cases h8 : s.size % 8 = 0
  · have h8' : ((s.size : Int) % 8 != 0) = false := by simp; omega
    have H8 : Hid (s.size % 8 = 0) := h8
    clear h8
    by_cases ho : (!((o : Int) == 0) == s.toList.isEmpty) = true
    · go_enter Tryf.func6, Tryf.ntmps6
      go_wp2
      go_ret
      exact ⟨false, rfl, by simp, rfl⟩
    · have ho' : (!((o : Int) == 0) == s.toList.isEmpty) = false := by simpa using ho
      clear ho
      go_enter Tryf.func6, Tryf.ntmps6
      go_wp2
      go_loop [5, 6] (fun v j => ∃ k n : Nat, 8 * k ≤ s.size ∧ j = .int .i64 (8 * k : Nat) ∧ v = .int .u64 n) (fun _ j => s.size - (intOf j).toNat)
      case atStart => exact ⟨0, 0, Nat.zero_le _, rfl, rfl⟩
      case round =>
        obtain ⟨k, n, hk, rfl, rfl⟩ := hrel
        by_cases hlt : 8 * k + 8 ≤ s.size
        · go_wp2_with (go_at_call 14; refine (bigEndianAt_at s (8 * k) _ (by omega) _ hs0 hlt).mono ?_; rintro e w' ⟨rfl, rfl⟩)
          · go_ret
            exact ⟨false, rfl, by simp, rfl⟩
          · go_round
            case rel => exact ⟨k + 1, num s (8 * k), by omega, by go_num, rfl⟩
            case measure => simp [intOf]; omega
        · go_wp2
          go_ret
          exact ⟨true, rfl, fun _ => H8.out, rfl⟩
  · have h8' : ((s.size : Int) % 8 != 0) = true := by simp; omega
    clear h8
    go_enter Tryf.func6, Tryf.ntmps6
    go_wp2
    go_ret
    exact ⟨false, rfl, by simp, rfl⟩

theorem info5 : (Tryf.prog.info? 5).map (fun i => (i.zero, i.size, i.bytes)) = some (some (.int .u8 0), 1, 1) := by kernel_rfl

/-- What cloneBytes leaves: a slice of the call's own that holds zs; nothing old has turned. -/
def ClonePost (zs : List Int) (w : World) (e : Ending) (w' : World) : Prop :=
  ∃ v, e = .returned v ∧ w'.ownsRow w.heap.size 5 1 v zs.length (zs.map (Value.int .u8)) ∧ Below w.heap.size w w'

theorem clone_nil (w : World) : Calls Tryf.prog 7 #[.slice none 0 0] w fun e w' => ClonePost [] w e w' := by
  have q := fun (w : World) (a : Option Addr) (n c n' c' : Nat) => Lib.run_eql_slice_nil (P := Tryf.prog) w 22 5 a n c n' c' Tryf.underlying22
  go_enter Tryf.func7, Tryf.ntmps7
  go_wp2
  go_ret
  exact ⟨_, rfl, World.ownsRow_nil _ _ _ _, Below.refl _ _⟩

theorem set_snoc_cells (zs : List Int) (k : Nat) (h : k < zs.length) (ys : List Value) (hy : ys.length = zs.length) (hk : ys.take k = (zs.map (Value.int .u8)).take k) :
    (ys.set k (.int .u8 zs[k])).take (k + 1) = (zs.map (Value.int .u8)).take (k + 1) := by
  have h1 : k < (ys.set k (.int .u8 zs[k])).length := by simpa [hy] using h
  have h2 : k < (zs.map (Value.int .u8)).length := by simpa using h
  rw [List.take_succ_eq_append_getElem h1, List.take_succ_eq_append_getElem h2, List.take_set_of_le (Nat.le_refl _), hk]
  simp

set_option maxHeartbeats 400000 in
theorem clone_some (ad : Addr) (zs : List Int) (cap : Nat) (w : World) (hz : zs.length ≤ 1048576) (hc : ∀ i, i < zs.length → w.cell? (ad.add i) = some (.int .u8 (zs.getD i 0))) :
    Calls Tryf.prog 7 #[.slice (some ad) zs.length cap] w fun e w' => ClonePost zs w e w' := by
  have q := fun (w : World) (a : Option Addr) (n c n' c' : Nat) => Lib.run_eql_slice_nil (P := Tryf.prog) w 22 5 a n c n' c' Tryf.underlying22
  obtain ⟨i0, hi, hz0, hz1, hz2⟩ := info_parts info5
  go_enter Tryf.func7, Tryf.ntmps7
  go_wp2_with (at_make; refine wpList_make_full w rfl _ _ 22 rfl w.heap.size 5 i0 (.int .u8 0) 1 Tryf.underlying22 hi hz0 hz1 .i64 .i64 _ _ zs.length rfl rfl rfl rfl (by rw [hz2]; omega) (by unfold maxLen; omega) (Nat.le_refl _) ?_)
  intro w1 hown hgrow
  go_wp2
  go_loopw [4] (fun i wr => ∃ (k : Nat) (ys : List Value), k ≤ zs.length ∧ i = .int .i64 k ∧ wr.ownsRow w.heap.size 5 1 (.slice (some ⟨w.heap.size, 0, none⟩) zs.length zs.length) zs.length ys ∧ ys.take k = (zs.map (Value.int .u8)).take k ∧ Below w.heap.size w wr) (fun i _ => zs.length - (intOf i).toNat)
  case atStart => exact ⟨0, _, Nat.zero_le _, rfl, hown, rfl, (Below.refl _ _).grown hgrow (Nat.le_refl _) (by simp)⟩
  case round =>
    obtain ⟨k, ys, hk, rfl, hownr, htk, hb⟩ := hrel
    by_cases hlt : k < zs.length
    · obtain ⟨b, off, rfl, hcc⟩ := ints_at hc (by omega)
      have hbw : b < w.heap.size := World.block_lt_of_cell? _ _ (hcc k hlt)
      have hck : wr.cell? ⟨b, off + k, none⟩ = some (.int .u8 (zs.getD k 0)) := (hb.cell (p := ⟨b, off + k, none⟩) hbw).trans (hcc k hlt)
      have hfr := hownr.frozenAt k
      have hlen : ys.length = zs.length := by simpa using hownr.1
      have hcel := hownr.cellAt k (by omega)
      rw [List.getElem?_eq_getElem (by omega)] at hcel
      go_wp2
      go_roundw
      case rel => exact ⟨k + 1, ys.set k (.int .u8 zs[k]), by omega, by go_num, (hownr.stored k _).1, set_snoc_cells zs k hlt ys hlen htk, hb.setCell (Nat.le_refl _) _⟩
      case measure => simp [intOf]; omega
    · obtain rfl : k = zs.length := by omega
      have hlen : ys.length = zs.length := by simpa using hownr.1
      have hys : Hid (ys = zs.map (Value.int .u8)) := by
        rw [List.take_of_length_le (by omega), List.take_of_length_le (by simp)] at htk; exact htk
      clear htk
      go_wp2
      go_ret
      exact ⟨_, rfl, hys.out ▸ hownr, hb⟩
def ReadPost (x q : Nat) (w : World) (e : Ending) (w' : World) : Prop := e = .returned (.tuple #[.int .u64 x, .int .i64 q, .bool true]) ∧ w' = w

theorem readPost_of {x q : Nat} {w : World} {A B : Int} (h1 : A = x) (h2 : B = q) : ReadPost x q w (.returned (.tuple #[.int .u64 A, .int .i64 B, .bool true])) w := by
  subst h1; subst h2; exact ⟨rfl, rfl⟩

set_option maxRecDepth 20000 in
set_option maxHeartbeats 400000 in
theorem readCanon_any (g n cap x p : Nat) (w : World) (hx : x < 18446744073709551616) (hn : n ≤ 8388608) (hp : p + (Lib.uvarint x).length ≤ n)
    (hc : ∀ j u, (Lib.uvarint x)[j]? = some u → w.cell? ⟨g, p + j, none⟩ = some (.int .u8 u.toNat)) :
    Calls Tryf.prog 13 #[.slice (some ⟨g, 0, none⟩) n cap, .int .i64 p] w fun e w' => ReadPost x (p + (Lib.uvarint x).length) w e w' := by
  have HC : Hid (∀ j u, (Lib.uvarint x)[j]? = some u → w.cell? ⟨g, p + j, none⟩ = some (.int .u8 u.toNat)) := hc
  have HX : Hid (x < 18446744073709551616) := hx
  have HP : Hid (p + (Lib.uvarint x).length ≤ n) := hp
  clear hc hx hp
  go_enter Tryf.func13, Tryf.ntmps13
  go_wp2
  go_loop [1, 7, 8] (fun q v i => ∃ k a y : Nat, k ≤ 9 ∧ i = .int .i64 k ∧ q = .int .i64 (p + k : Nat) ∧ v = .int .u64 a ∧ UV x k a y) (fun _ _ i => 10 - (intOf i).toNat)
  case atStart => exact ⟨0, 0, x, by omega, rfl, rfl, rfl, UV.start x⟩
  case round =>
    obtain ⟨k, a, y, hk, rfl, rfl, rfl, hU⟩ := hrel
    have HU : Hid (UV x k a y) := hU
    have hpk : p + k < n := by have := HP.out; have := hU.len; have := Lib.uvarint_pos y; omega
    clear hU
    obtain ⟨q, hq⟩ : ∃ q, q = p + k := ⟨_, rfl⟩
    rw [← hq] at hpk ⊢
    have hqn : q < 8388608 := by omega
    have HQ : Hid (q = p + k) := hq
    by_cases hsm : y < 128
    · have hck := HC.out k _ (HU.out.small hsm)
      rw [Lib.toUInt8_toNat (by omega), ← hq] at hck
      clear hq
      by_cases hk9 : k = 9
      · have hy1 := HU.out.le9 HX.out hk9
        have hy2 : 1 ≤ y := by rcases HU.out.pos with h | h <;> omega
        have hk9' : ((k : Int) == 9) = true := by simp; omega
        have hk9 : Hid (k = 9) := hk9
        go_wp2
        go_ret3
        refine readPost_of ?_ ?_
        · have HU1 := HU.out; rw [hk9.out] at HU1
          rw [or_var9 a y (by omega) HU1.lt (HU1.below HX.out), HU1.fin (by omega)]
        · have := HU.out.finLen (by omega); have := HQ.out; omega
      · by_cases hk0 : k = 0
        · have hk0' : ((k : Int) == 9) = false := by simp; omega
          have hk0 : Hid (k = 0) := hk0
          go_wp2
          go_ret3
          refine readPost_of ?_ ?_
          · have HU1 := HU.out; rw [hk0.out] at HU1
            rw [or_var0 a y (by omega) HU1.lt (HU1.below HX.out), HU1.fin (by omega)]
          · have := HU.out.finLen (by omega); have := HQ.out; omega
        · have hy2 : 1 ≤ y := by rcases HU.out.pos with h | h <;> omega
          have hk9' : ((k : Int) == 9) = false := by simp; omega
          clear hk9
          go_wp2
          go_ret3
          refine readPost_of ?_ ?_
          · have HU1 := HU.out
            rw [or_var a y k (by omega) HU1.lt (HU1.below HX.out), HU1.fin (by omega)]
          · have := HU.out.finLen (by omega); have := HQ.out; omega
    · have hk9 := HU.out.lt9 HX.out (by omega) hk
      have hck := HC.out k _ (HU.out.big (by omega))
      rw [Lib.toUInt8_toNat (by omega), ← hq] at hck
      clear hq
      obtain ⟨c, hcd⟩ : ∃ c, c = y % 128 + 128 := ⟨_, rfl⟩
      rw [← hcd] at hck
      have hc1 : 128 ≤ c := by omega
      have hc2 : c < 256 := by omega
      have HCD : Hid (c = y % 128 + 128) := hcd
      clear hcd
      go_wp2
      go_round
      case rel =>
        have HU1 := HU.out
        have hcm : c % 128 = y % 128 := by have := HCD.out; omega
        refine ⟨k + 1, _, _, by omega, by go_num, ?_, val_int (or_var a c k (by omega) HU1.lt (by rw [hcm]; exact HU1.below HX.out)), by rw [hcm]; exact HU1.next (by omega)⟩
        have := HQ.out; go_num
      case measure => simp [intOf]; omega

def DrawnPost (b : Bool) (w : World) (e : Ending) (w' : World) : Prop := e = .returned (.bool b) ∧ ∃ n, w' = w.drewN n

theorem prefix_nil (a : Option Addr) (n cap : Nat) (w : World) :
    Calls Tryf.prog 9 #[.slice a n cap, .slice none 0 0] w fun e w' => DrawnPost true w e w' := by
  go_enter Tryf.func9, Tryf.ntmps9
  go_wp2
  refine wp_loop_rounds 1 ?_
  rw [rounds_succ]
  go_wp2
  go_ret
  exact ⟨rfl, 0, rfl⟩

set_option maxHeartbeats 400000 in
theorem prefix_some (g gb n cap capb : Nat) (zs : List Int) (w : World) (hn : n ≤ 8388608) (hl : zs.length ≤ n)
    (h1 : ∀ j, j < zs.length → w.cell? ⟨g, j, none⟩ = some (.int .u8 (zs.getD j 0))) (h2 : ∀ j, j < zs.length → w.cell? ⟨gb, j, none⟩ = some (.int .u8 (zs.getD j 0))) :
    Calls Tryf.prog 9 #[.slice (some ⟨g, 0, none⟩) n cap, .slice (some ⟨gb, 0, none⟩) zs.length capb] w fun e w' => DrawnPost true w e w' := by
  go_enter Tryf.func9, Tryf.ntmps9
  go_wp2
  go_loopw [5] (fun i wr => ∃ k m : Nat, k ≤ zs.length ∧ i = .int .i64 k ∧ wr = w.drewN m) (fun i _ => zs.length - (intOf i).toNat)
  case atStart => exact ⟨0, 0, Nat.zero_le _, rfl, rfl⟩
  case round =>
    obtain ⟨k, m, hk, rfl, rfl⟩ := hrel
    by_cases hlt : k < zs.length
    · have q1 := h1 k hlt
      have q2 := h2 k hlt
      have hkn : k < n := by omega
      go_wp2
      go_quiet (fail)
      go_wp2
      go_roundw
      case rel => exact ⟨k + 1, m + nq, by omega, by go_num, rfl⟩
      case measure => simp [intOf]; omega
    · go_wp2
      go_ret
      exact ⟨rfl, m, rfl⟩
end Go.Proofs.Qxb6604357aFmt
