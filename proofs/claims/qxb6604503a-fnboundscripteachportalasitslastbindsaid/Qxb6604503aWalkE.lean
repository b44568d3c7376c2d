/-
  The walks of seat b6604503a, fifth part: the two keys' functions; the table of portals; look-ups; the comparison of two tables.
-/
import Derived.Test.Qxb6604503aWalkA
namespace Go.Proofs.Qxb6604503a
open Go.RowKit Go.Maps

theorem law : Keyed Try.prog 9 := string_keyed Try.underlying9

theorem cutName_long {s : ByteArray} (h : 63 ≤ s.size) : cutName s = s.extract 0 63 := by
  unfold cutName; rw [Nat.min_eq_right h]
theorem cutName_short {s : ByteArray} (h : s.size ≤ 63) : cutName s = s := by
  unfold cutName; rw [Nat.min_eq_left h]
  apply bytes_ext
  simp

theorem ret_str {s t : ByteArray} (h : s = t) : Ending.returned (.string s) = .returned (.string t) := by rw [h]

theorem nameKey_any (s : ByteArray) (w : World) (hs : s.size ≤ maxLen) : Calls Try.prog 30 #[.string s] w fun e w' => e = .returned (.string (cutName s)) ∧ w' = w := by
  unfold maxLen at hs
  go_enter Try.func30, Try.ntmps30
  go_wp2
  · go_ret
    exact ⟨ret_str (cutName_long (by omega)).symm, rfl⟩
  · go_ret
    exact ⟨ret_str (cutName_short (by omega)).symm, rfl⟩

theorem zzKey_any (s : ByteArray) (w : World) (hs : s.size ≤ maxLen) : Calls Try.prog 27 #[.string s] w fun e w' => e = .returned (.string (cutName s)) ∧ w' = w := by
  unfold maxLen at hs
  by_cases h : 63 < s.size
  · go_enter Try.func27, Try.ntmps27
    go_wp2
    go_ret
    exact ⟨ret_str (cutName_long (by omega)).symm, rfl⟩
  · go_enter Try.func27, Try.ntmps27
    go_wp2
    go_ret
    exact ⟨ret_str (cutName_short (by omega)).symm, rfl⟩

theorem run_makeMap_hint (n : Int) (w : World) : (Instr.makeMap 37 (some (.int .i64 n))).run Try.prog w = .ok (.map (some w.heap.size)) (w.alloc (.map #[] 0)) := by
  simp [Instr.makeMap, run_underlying Try.underlying37, asInt, asIntOf, go_sem]

theorem hS {s : ByteArray} (hs : s.size ≤ maxLen) : keyOf Try.prog 9 (.string s) = some (kS s) := WideMaps.keyOf_string_mk Try.underlying9 hs
theorem eS {s : ByteArray} (hs : s.size ≤ maxLen) : plainElem (H := Unit) Try.prog 9 (.string s) = some (dS s, []) := plainElem_string Try.underlying9 hs

/-- What the table's function leaves: a new map that reads as the table. -/
def TablePost (pk pv : List ByteArray) (w : World) (e : Ending) (w' : World) : Prop :=
  ∃ b, e = .returned (.map (some b)) ∧ w.heap.size ≤ b ∧ w'.ownsMap Try.prog 9 (plainElem Try.prog 9) b pk.length (tab pk pv pk.length) ∧ Below w.heap.size w w'

set_option maxRecDepth 20000 in
set_option maxHeartbeats 400000 in
theorem table_any (ap av : Option Addr) (pk pv : List ByteArray) (cp cv : Nat) (w : World) (hl : pk.length ≤ 1048576) (hv : pv.length = pk.length) (h1 : HS w ap pk) (h2 : HS w av pv) (z1 : ∀ s ∈ pk, s.size ≤ maxLen) (z2 : ∀ s ∈ pv, s.size ≤ maxLen) :
    Calls Try.prog 18 #[.slice ap pk.length cp, .slice av pk.length cv] w fun e w' => TablePost pk pv w e w' := by
  have hmm := run_makeMap_hint
  have H1 : Hid (HS w ap pk) := h1
  have H2 : Hid (HS w av pv) := h2
  clear h1 h2
  go_enter Try.func18, Try.ntmps18
  go_wp2
  go_loopw [6] (fun i wr => ∃ k : Nat, k ≤ pk.length ∧ i = .int .i64 k ∧ wr.ownsMap Try.prog 9 (plainElem Try.prog 9) w.heap.size k (tab pk pv k) ∧ Below w.heap.size w wr) (fun i _ => pk.length - (intOf i).toNat)
  case atStart => exact ⟨0, Nat.zero_le _, rfl, World.ownsMap_made _ _ _ _, (Below.refl _ _).alloc (Nat.le_refl _) _⟩
  case round =>
    obtain ⟨k, hk, rfl, hown, hb⟩ := hrel
    clear hmm
    by_cases hlt : k < pk.length
    · have hlt2 : k < pv.length := by omega
      obtain ⟨b1, o1, rfl, c1⟩ := H1.out k hlt
      obtain ⟨b2, o2, rfl, c2⟩ := H2.out k hlt2
      have d1 := (hb.cell (p := ⟨b1, o1 + k, none⟩) (World.block_lt_of_cell? _ _ c1)).trans c1
      have d2 := (hb.cell (p := ⟨b2, o2 + k, none⟩) (World.block_lt_of_cell? _ _ c2)).trans c2
      obtain ⟨w1, hrun, hown1, hg1⟩ := hown.drew.update law Try.underlying37 (by unfold maxLen; omega) (hS (z1 _ (List.getElem_mem hlt))) (eS (z2 _ (List.getElem_mem hlt2)))
      obtain ⟨s1, hs1⟩ : ∃ s, s = pk[k] := ⟨_, rfl⟩
      obtain ⟨s2, hs2⟩ : ∃ s, s = pv[k] := ⟨_, rfl⟩
      have hown2 : w1.ownsMap Try.prog 9 (plainElem Try.prog 9) w.heap.size (k + 1) (tab pk pv (k + 1)) := by
        have e : tab pk pv (k + 1) = (tab pk pv k).put (kS pk[k]) (dS pv[k]) := by simp [tab, List.getD, hlt, hlt2]
        rw [e]; exact hown1
      rw [← hs1] at d1 hrun
      rw [← hs2] at d2 hrun
      have hb2 : Below w.heap.size w w1 := hb.drew.grown hg1 hb.size (fun j hj => by cases hj; exact Nat.le_refl _)
      clear hs1 hs2 c1 c2 hown1 hg1 H1 H2 hlt2
      go_wp2
      go_region
      go_wp2
      go_roundw
      case rel => first | exact ⟨k + 1, by omega, by go_num, hown2, hb2⟩ | ((repeat apply Exists.intro); exact ⟨⟨k + 1, by omega, by go_num, hown2, hb2⟩, rfl⟩)
      case measure => simp [intOf]; omega
    · have hke : k = pk.length := by omega
      rw [hke] at hown
      go_wp2
      go_ret
      exact ⟨_, rfl, Nat.le_refl _, hown, hb⟩

theorem zero9 (w : World) : (zeroValue 9).run Try.prog w = .ok (.string ByteArray.empty) w := by kernel_rfl

theorem lookS {w : World} {b n : Nat} {D : DataW Unit} (h : w.ownsMap Try.prog 9 (plainElem Try.prog 9) b n D) {k : ByteArray} (hk : k.size ≤ maxLen) :
    ∃ s, (Instr.lookup 37 (.map (some b)) (.string k) true).run Try.prog w = .ok (.tuple #[.string s, .bool (Maps.has D (kS k))]) w ∧ D.atKey (kS k) (dS ByteArray.empty) = dS s := by
  obtain ⟨v, ps, hrun, hv⟩ := h.look_ok law Try.underlying37 (zero9 w) (eS (s := ByteArray.empty) (by decide)) (hS hk)
  obtain ⟨s, rfl, hz, _⟩ := plainElem_string_inv Try.underlying9 hv
  exact ⟨s, hrun, congrArg Prod.fst hz⟩

theorem sameAt_any (b1 b2 n1 n2 : Nat) (D : DataW Unit) (k : ByteArray) (w : World) (hk : k.size ≤ maxLen) (h1 : w.ownsMap Try.prog 9 (plainElem Try.prog 9) b1 n1 D) (h2 : w.ownsMap Try.prog 9 (plainElem Try.prog 9) b2 n2 D) :
    Calls Try.prog 28 #[.map (some b1), .map (some b2), .string k] w fun e w' => e = .returned (.bool true) ∧ w' = w := by
  obtain ⟨s1, r1, a1⟩ := lookS h1 hk
  obtain ⟨s2, r2, a2⟩ := lookS h2 hk
  obtain rfl : s1 = s2 := dS_inj (a1.symm.trans a2)
  clear a1 a2 h1 h2
  generalize Maps.has D (kS k) = q at r1 r2
  go_enter Try.func28, Try.ntmps28
  go_wp2
  go_ret
  exact ⟨rfl, rfl⟩

theorem dropPortals_any (C bP : Nat) (w : World) (hc : w.cell? ⟨C, 6, none⟩ = some (.map (some bP))) :
    Calls Try.prog 22 #[.pointer (some ⟨C, 0, none⟩)] w fun e w' => e = .returned (.map (some bP)) ∧ w' = w := by
  go_enter Try.func22, Try.ntmps22
  go_wp2
  go_ret
  exact ⟨rfl, rfl⟩

/-- What a recorded Bind leaves. -/
def BindPost (b n : Nat) (D : DataW Unit) (w : World) (e : Ending) (w' : World) : Prop :=
  e = .returned (.tuple #[]) ∧ w'.ownsMap Try.prog 9 (plainElem Try.prog 9) b (n + 1) D ∧ w.grownBy w' (some b)

theorem recordBind_any (b n : Nat) (D : DataW Unit) (p d : ByteArray) (m : Bool) (w : World) (hp : p.size ≤ maxLen) (hd : d.size ≤ maxLen) (hn : n < maxLen) (h : w.ownsMap Try.prog 9 (plainElem Try.prog 9) b n D) :
    Calls Try.prog 20 #[.map (some b), .string p, .bool m, .string d] w fun e w' => BindPost b n (bindD D p (m, d)) w e w' := by
  cases m
  · obtain ⟨w1, hrun, hown1, ht⟩ := h.drop law Try.underlying37 (hS hp) 0
    go_enter Try.func20, Try.ntmps20
    go_wp2
    go_end0
    exact ⟨rfl, hown1.mono (Nat.le_succ _), ht.grown⟩
  · obtain ⟨w1, hrun, hown1, ht⟩ := h.update law Try.underlying37 hn (hS hp) (eS hd)
    clear h
    go_enter Try.func20, Try.ntmps20
    go_wp2
    go_end0
    exact ⟨rfl, hown1, ht⟩

set_option maxRecDepth 20000 in
set_option maxHeartbeats 400000 in
theorem sameTable_any (b1 b2 n1 n2 : Nat) (D : DataW Unit) (ap aq : Option Addr) (pk ps : List ByteArray) (cp cq : Nat) (w : World) (l1 : pk.length ≤ 1048576) (l2 : ps.length ≤ 1048576) (z1 : ∀ s ∈ pk, s.size ≤ maxLen) (z2 : ∀ s ∈ ps, s.size ≤ maxLen)
    (h1 : w.ownsMap Try.prog 9 (plainElem Try.prog 9) b1 n1 D) (h2 : w.ownsMap Try.prog 9 (plainElem Try.prog 9) b2 n2 D) (g1 : HS w ap pk) (g2 : HS w aq ps) :
    Calls Try.prog 21 #[.map (some b1), .map (some b2), .slice ap pk.length cp, .slice aq ps.length cq] w fun e w' => e = .returned (.bool true) ∧ w' = w := by
  have q1 := fun ty => h1.len Try.underlying37 ty
  have q2 := fun ty => h2.len Try.underlying37 ty
  generalize Maps.size D = N at q1 q2
  have G1 : Hid (HS w ap pk) := g1
  have G2 : Hid (HS w aq ps) := g2
  have hsame := fun k hk => sameAt_any b1 b2 n1 n2 D k w hk h1 h2
  have HSM : Hid (∀ k : ByteArray, k.size ≤ maxLen → Calls Try.prog 28 #[.map (some b1), .map (some b2), .string k] w fun e w' => e = .returned (.bool true) ∧ w' = w) := hsame
  clear g1 g2 h1 h2 hsame
  go_enter Try.func21, Try.ntmps21
  go_wp2
  go_loop [9] (fun i => ∃ k : Nat, k ≤ pk.length ∧ i = .int .i64 k) (fun i => pk.length - (intOf i).toNat)
  case atStart => exact ⟨0, Nat.zero_le _, rfl⟩
  case round =>
    obtain ⟨k, hk, rfl⟩ := hrel
    by_cases hlt : k < pk.length
    · obtain ⟨b, o, rfl, hc⟩ := G1.out k hlt
      have hz := z1 _ (List.getElem_mem hlt)
      obtain ⟨s, hs⟩ : ∃ s, s = pk[k] := ⟨_, rfl⟩
      rw [← hs] at hc hz
      clear hs G1 G2 q1 q2
      go_wp2_with fail
      refine (HSM.out s hz).mono ?_
      rintro e w1 ⟨rfl, hw⟩
      obtain rfl : w = w1 := hw.symm
      go_wp2
      go_round
      case rel => exact ⟨k + 1, by omega, by go_num⟩
      case measure => simp [intOf]; omega
    · clear q1 q2
      go_wp2
      go_loop [10] (fun i => ∃ k : Nat, k ≤ ps.length ∧ i = .int .i64 k) (fun i => ps.length - (intOf i).toNat)
      case atStart => exact ⟨0, Nat.zero_le _, rfl⟩
      case round =>
        obtain ⟨k2, hk2, rfl⟩ := hrel
        by_cases hlt2 : k2 < ps.length
        · obtain ⟨b, o, rfl, hc⟩ := G2.out k2 hlt2
          have hz := z2 _ (List.getElem_mem hlt2)
          obtain ⟨s, hs⟩ : ∃ s, s = ps[k2] := ⟨_, rfl⟩
          rw [← hs] at hc hz
          clear hs G1 G2
          go_wp2_with fail
          refine (HSM.out s hz).mono ?_
          rintro e w1 ⟨rfl, hw⟩
          obtain rfl : w = w1 := hw.symm
          go_wp2
          go_round
          case rel => exact ⟨k2 + 1, by omega, by go_num⟩
          case measure => simp [intOf]; omega
        · go_wp2
          go_ret
          exact ⟨rfl, rfl⟩
end Go.Proofs.Qxb6604503a
