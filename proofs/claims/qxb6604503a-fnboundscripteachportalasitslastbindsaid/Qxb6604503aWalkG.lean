/-
  The walks of seat b6604503a, seventh part: ZZnewStatements.
-/
import Derived.Test.Qxb6604503aStm
import Derived.BigRegion
namespace Go.Proofs.Qxb6604503a
open Go.RowKit Go.Maps

/-- What ZZnewStatements leaves. -/
def NewPost (ks : List ByteArray) (bs : List Bool) (ds pk pv : List ByteArray) (ua : Bool) (un : ByteArray) (w : World) (e : Ending) (w' : World) : Prop :=
  ∃ C bN bP, e = .returned (.pointer (some ⟨C, 0, none⟩)) ∧ Stm w' C bN bP ua un (look ks bs ds ks.length) ks.length pk.length (tab pk pv pk.length) ∧ w.heap.size ≤ bN ∧ w.heap.size ≤ bP ∧ Below w.heap.size w w'

theorem stm_made (w : World) (ua : Bool) (un : ByteArray) (ks : List ByteArray) (bs : List Bool) (ds pk pv : List ByteArray) :
    Stm (((w.alloc (.map #[] 0)).alloc (.map #[] 0)).alloc (.cells (cbox w.heap.size ua un (w.heap.size + 1)) 60)) (w.heap.size + 1 + 1) w.heap.size (w.heap.size + 1) ua un (look ks bs ds 0) 0 0 (tab pk pv 0) := by
  refine ⟨?_, ⟨.map [], ((World.ownsMap_made w _ _ _).alloc _).alloc _, fun s => Or.inl ⟨rfl, rfl⟩⟩, ?_, by omega⟩
  · have := heap_alloc_new ((w.alloc (.map #[] 0)).alloc (.map #[] 0)) (.cells (cbox w.heap.size ua un (w.heap.size + 1)) 60)
    simpa using this
  · have := (World.ownsMap_made (H := Unit) (w.alloc (.map #[] 0)) Try.prog 9 (plainElem Try.prog 9)).alloc (.cells (cbox w.heap.size ua un (w.heap.size + 1)) 60)
    rw [World.size_alloc] at this
    exact this

theorem old_cell {w : World} {a : Addr} {v : Value} (h : w.cell? a = some v) (o : Obj) : (w.alloc o).cell? a = some v := cell_later ((Below.refl _ w).alloc (Nat.le_refl _) o) h

theorem look_succ {ks : List ByteArray} {bs : List Bool} {ds : List ByteArray} {k : Nat} (h1 : k < ks.length) (h2 : k < bs.length) (h3 : k < ds.length) :
    look ks bs ds (k + 1) = fun s => if ks[k] = s then some (bs[k], ds[k]) else look ks bs ds k s := by
  funext s; simp [look, List.getD, h1, h2, h3]

theorem tab_succ {pk pv : List ByteArray} {k : Nat} (h1 : k < pk.length) (h2 : k < pv.length) : tab pk pv (k + 1) = (tab pk pv k).put (kS pk[k]) (dS pv[k]) := by
  simp [tab, List.getD, h1, h2]

set_option maxRecDepth 20000 in
set_option maxHeartbeats 1000000 in
theorem new_any (ak aa ad ap av : Option Addr) (ks : List ByteArray) (bs : List Bool) (ds pk pv : List ByteArray) (ck ca cd cp cv : Nat) (ua : Bool) (un : ByteArray) (w : World)
    (hl : ks.length ≤ 1048576) (ha : bs.length = ks.length) (hd : ds.length = ks.length) (hl2 : pk.length ≤ 1048576) (hv : pv.length = pk.length)
    (zk : ∀ s ∈ ks, s.size ≤ maxLen) (z1 : ∀ s ∈ pk, s.size ≤ maxLen) (z2 : ∀ s ∈ pv, s.size ≤ maxLen)
    (h1 : HS w ak ks) (h2 : HB w aa bs) (h3 : HS w ad ds) (h4 : HS w ap pk) (h5 : HS w av pv) :
    Calls Try.prog 16 #[.slice ak ks.length ck, .slice aa ks.length ca, .slice ad ks.length cd, .bool ua, .string un, .slice ap pk.length cp, .slice av pk.length cv] w fun e w' => NewPost ks bs ds pk pv ua un w e w' := by
  have hmm := @run_makeMap Try.prog
  have H1 : Hid (HS w ak ks) := h1
  have H2 : Hid (HB w aa bs) := h2
  have H3 : Hid (HS w ad ds) := h3
  have H4 : Hid (HS w ap pk) := h4
  have H5 : Hid (HS w av pv) := h5
  clear h1 h2 h3 h4 h5
  go_enter Try.func16, Try.ntmps16
  go_wp2
  go_loopw [16, 27] (fun _ i wr => ∃ k : Nat, k ≤ ks.length ∧ i = .int .i64 k ∧ Stm wr (w.heap.size + 1 + 1) w.heap.size (w.heap.size + 1) ua un (look ks bs ds k) k 0 (tab pk pv 0) ∧ Below w.heap.size w wr) (fun _ i _ => ks.length - (intOf i).toNat)
  case atStart => exact ⟨0, Nat.zero_le _, rfl, stm_made w ua un ks bs ds pk pv, (((Below.refl _ w).alloc (Nat.le_refl _) _).alloc (by simp) _).alloc (by simp; omega) _⟩
  case round =>
    obtain ⟨k, hk, rfl, S, hb⟩ := hrel
    clear hmm
    by_cases hlt : k < ks.length
    · have hk2 : k < bs.length := by omega
      have hk3 : k < ds.length := by omega
      obtain ⟨b1, o1, rfl, c1⟩ := H1.out k hlt
      obtain ⟨b2, o2, rfl, c2⟩ := H2.out k hk2
      obtain ⟨b3, o3, rfl, c3⟩ := H3.out k hk3
      have d1 := (hb.cell (p := ⟨b1, o1 + k, none⟩) (World.block_lt_of_cell? _ _ c1)).trans c1
      have d2 := (hb.cell (p := ⟨b2, o2 + k, none⟩) (World.block_lt_of_cell? _ _ c2)).trans c2
      have d3 := (hb.cell (p := ⟨b3, o3 + k, none⟩) (World.block_lt_of_cell? _ _ c3)).trans c3
      have d0 := S.c0
      have hq := zk _ (List.getElem_mem hlt)
      have hlk := look_succ (ks := ks) (bs := bs) (ds := ds) hlt hk2 hk3
      obtain ⟨q1, hq1⟩ : ∃ q, q = ks[k] := ⟨_, rfl⟩
      obtain ⟨q2, hq2⟩ : ∃ q, q = bs[k] := ⟨_, rfl⟩
      obtain ⟨q3, hq3⟩ : ∃ q, q = ds[k] := ⟨_, rfl⟩
      rw [← hq1] at d1 hq hlk
      rw [← hq2] at d2 hlk
      rw [← hq3] at d3 hlk
      obtain ⟨w1, hrun, S1, hg1⟩ := S.name (q1 := q1) (q2 := q2) (q3 := q3) hq (by unfold maxLen; omega)
      rw [← hlk] at S1
      have hb1 : Below w.heap.size w w1 := ((hb.alloc hb.size _).drew).grown hg1 (by have := hb.size; show _ ≤ (wr.alloc _).heap.size; simp; omega) (fun j hj => by cases hj; exact Nat.le_refl _)
      have f0 := old_cell d0
      have f1 := old_cell d1
      have f2 := old_cell d2
      have f3 := old_cell d3
      unfold sbox at hrun
      have HR : Hid (Stm w1 (w.heap.size + 1 + 1) w.heap.size (w.heap.size + 1) ua un (look ks bs ds (k + 1)) (k + 1) 0 (tab pk pv 0)) := S1
      have HB1 : Hid (Below w.heap.size w w1) := hb1
      clear c1 c2 c3 hq1 hq2 hq3 H1 H2 H3 H4 H5 S S1 hb hlk hb1 hg1
      go_wp2
      go_region
      go_wp2
      go_roundw
      case rel => first | exact ⟨k + 1, by omega, by go_num, HR.out, HB1.out⟩ | ((repeat apply Exists.intro); exact ⟨⟨k + 1, by omega, by go_num, HR.out, HB1.out⟩, rfl⟩)
      case measure => simp [intOf]; omega
    · have hke : k = ks.length := by omega
      have S0 : Stm wr (w.heap.size + 1 + 1) w.heap.size (w.heap.size + 1) ua un (look ks bs ds ks.length) ks.length 0 (tab pk pv 0) := by rw [hke] at S; exact S
      clear S hke
      go_wp2
      go_loopw [17, 52] (fun _ i wr => ∃ j : Nat, j ≤ pk.length ∧ i = .int .i64 j ∧ Stm wr (w.heap.size + 1 + 1) w.heap.size (w.heap.size + 1) ua un (look ks bs ds ks.length) ks.length j (tab pk pv j) ∧ Below w.heap.size w wr) (fun _ i _ => pk.length - (intOf i).toNat)
      case atStart => exact ⟨0, Nat.zero_le _, rfl, S0, hb⟩
      case round =>
        obtain ⟨j, hj, rfl, T, hbj⟩ := hrel
        clear S0 hb
        by_cases hlt2 : j < pk.length
        · have hj2 : j < pv.length := by omega
          obtain ⟨b4, o4, rfl, c4⟩ := H4.out j hlt2
          obtain ⟨b5, o5, rfl, c5⟩ := H5.out j hj2
          have d4 := (hbj.cell (p := ⟨b4, o4 + j, none⟩) (World.block_lt_of_cell? _ _ c4)).trans c4
          have d5 := (hbj.cell (p := ⟨b5, o5 + j, none⟩) (World.block_lt_of_cell? _ _ c5)).trans c5
          have d6 := T.c6
          have hz4 := z1 _ (List.getElem_mem hlt2)
          have hz5 := z2 _ (List.getElem_mem hj2)
          have htb := tab_succ (pk := pk) (pv := pv) hlt2 hj2
          obtain ⟨q4, hq4⟩ : ∃ q, q = pk[j] := ⟨_, rfl⟩
          obtain ⟨q5, hq5⟩ : ∃ q, q = pv[j] := ⟨_, rfl⟩
          rw [← hq4] at d4 hz4 htb
          rw [← hq5] at d5 hz5 htb
          obtain ⟨w1, hrun, hown1, hg1⟩ := T.ports.drew.update law Try.underlying37 (by unfold maxLen; omega) (hS hz4) (eS hz5)
          rw [← htb] at hown1
          have HT : Hid (Stm w1 (w.heap.size + 1 + 1) w.heap.size (w.heap.size + 1) ua un (look ks bs ds ks.length) ks.length (j + 1) (tab pk pv (j + 1))) := Stm.port (w := wr.drew) ⟨T.box, T.named, T.ports, T.ne⟩ hg1 hown1
          have HB1 : Hid (Below w.heap.size w w1) := hbj.drew.grown hg1 hbj.size (fun i hi => by cases hi; omega)
          clear c4 c5 hq4 hq5 H1 H2 H3 H4 H5 T hbj htb hown1 hg1 hz4 hz5
          go_wp2
          go_region
          go_wp2
          go_roundw
          case rel => first | exact ⟨j + 1, by omega, by go_num, HT.out, HB1.out⟩ | ((repeat apply Exists.intro); exact ⟨⟨j + 1, by omega, by go_num, HT.out, HB1.out⟩, rfl⟩)
          case measure => simp [intOf]; omega
        · have hje : j = pk.length := by omega
          have HT : Hid (Stm wr (w.heap.size + 1 + 1) w.heap.size (w.heap.size + 1) ua un (look ks bs ds ks.length) ks.length pk.length (tab pk pv pk.length)) := by rw [hje] at T; exact T
          clear T hje
          go_wp2
          go_ret
          exact ⟨_, _, _, rfl, HT.out, Nat.le_refl _, by omega, hbj⟩
end Go.Proofs.Qxb6604503a
