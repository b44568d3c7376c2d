/-
  The walks of seat b6604357aF, second part: readSizedID; what appends: AppendUvarint, AppendFlag, AppendSized.
-/
import Derived.Test.Qxb6604357aFmtWalkA
import Derived.Lib.VarintMem
namespace Go.Proofs.Qxb6604357aFmt
open Go.RowKit

theorem readCanon_at (g n cap x p l : Nat) (P : Int) (hP : P = p) (w : World) (hx : x < 18446744073709551616) (hn : n ≤ 8388608) (hl : (Lib.uvarint x).length = l) (hp : p + l ≤ n) (hc : Lies w g p (Lib.uvarint x)) :
    Calls Tryf.prog 13 #[.slice (some ⟨g, 0, none⟩) n cap, .int .i64 P] w fun e w' => e = .returned (.tuple #[.int .u64 x, .int .i64 (p + l : Nat), .bool true]) ∧ w' = w := by
  subst hP; subst hl; exact readCanon_any g n cap x p w hx hn hp hc

set_option maxRecDepth 20000 in
set_option maxHeartbeats 400000 in
theorem readSizedID_any (g n cap p o : Nat) (s : ByteArray) (w : World) (ho : o < 18446744073709551616) (hs : s.size ≤ 1048576) (h8 : s.size % 8 = 0) (hn : n ≤ 8388608) (hnc : n ≤ cap)
    (hp : p + (Lib.uvarint (inner o s).length).length + (inner o s).length ≤ n)
    (hc : Lies w g p (Lib.uvarint (inner o s).length ++ inner o s)) :
    Calls Tryf.prog 10 #[.slice (some ⟨g, 0, none⟩) n cap, .int .i64 p, .int .u64 o, .string s] w fun e w' =>
      e = .returned (.tuple #[.int .i64 (p + (Lib.uvarint (inner o s).length).length + (inner o s).length : Nat), .bool true]) ∧ w' = w := by
  obtain ⟨L, hL⟩ : ∃ L, (inner o s).length = L := ⟨_, rfl⟩
  rw [hL] at hp hc ⊢
  obtain ⟨l1, hl1⟩ : ∃ l, (Lib.uvarint L).length = l := ⟨_, rfl⟩
  rw [hl1] at hp ⊢
  obtain ⟨l2, hl2⟩ : ∃ l, (Lib.uvarint o).length = l := ⟨_, rfl⟩
  have hL64 : L < 18446744073709551616 := by omega
  have HC1 : Hid (Lies w g p (Lib.uvarint L)) := hc.left
  have HC2 : Hid (Lies w g (p + l1) (inner o s)) := hl1 ▸ hc.right
  have HO : Hid (o < 18446744073709551616) := ho
  have HL64 : Hid (L < 18446744073709551616) := hL64
  have HL : Hid ((inner o s).length = L) := hL
  have HL1 : Hid ((Lib.uvarint L).length = l1) := hl1
  have HL2 : Hid ((Lib.uvarint o).length = l2) := hl2
  have hl12 : l2 ≤ L := by rw [← hL, ← hl2]; simp [inner]
  have HS8 : Hid (s.size % 8 = 0) := h8
  clear hc ho hL64 hL hl1 hl2 h8
  go_enter Tryf.func10, Tryf.ntmps10
  go_wp2_with fail
  refine (readCanon_at g n cap L p l1 _ rfl _ HL64.out hn HL1.out (by omega) HC1.out).mono ?_
  rintro e w' ⟨rfl, rfl⟩
  go_wp2_with fail
  refine (readCanon_at g (p + l1 + L) cap o (p + l1) l2 _ (by omega) _ HO.out (by omega) HL2.out (by omega) HC2.out.left).mono ?_
  rintro e w'' ⟨rfl, rfl⟩
  have HC3 : Hid (Lies w'' g (p + l1 + l2) (enc s (s.size / 8))) := HL2.out ▸ HC2.out.right
  have HE : Hid (l2 + (enc s (s.size / 8)).length = L) := by rw [← HL2.out, ← HL.out]; simp [inner, Hid]
  go_wp2_with fail
  go_loop [16, 18] (fun q kk => ∃ k q' : Nat, k ≤ s.size / 8 ∧ kk = .int .i64 k ∧ q = .int .i64 q' ∧ q' = p + l1 + l2 + (enc s k).length) (fun _ kk => s.size / 8 - (intOf kk).toNat)
  case atStart => exact ⟨0, p + l1 + l2, Nat.zero_le _, rfl, by go_num, by simp [enc]⟩
  case round =>
    obtain ⟨k, q, hk, rfl, rfl, hq⟩ := hrel
    have HQ : Hid (q = p + l1 + l2 + (enc s k).length) := hq
    clear hq
    by_cases hlt : k < s.size / 8
    · have hel := enc_lt s hlt
      have hup := Lib.uvarint_pos (num s (8 * k))
      have hqL : q < p + l1 + L := by have := HE.out; have := HQ.out; omega
      obtain ⟨l3, hl3⟩ : ∃ l, (Lib.uvarint (num s (8 * k))).length = l := ⟨_, rfl⟩
      have HL3 : Hid ((Lib.uvarint (num s (8 * k))).length = l3) := hl3
      have hl3p : 1 ≤ l3 := by omega
      have hqL3 : q + l3 ≤ p + l1 + L := by have := HE.out; have := HQ.out; omega
      have HC4 : Hid (Lies w'' g q (Lib.uvarint (num s (8 * k)))) := by
        obtain ⟨t, ht⟩ := enc_split s hlt
        have h := HC3.out
        rw [ht] at h
        rw [HQ.out]
        exact h.right.left
      have h8k : 8 * k + 8 ≤ s.size := by omega
      clear hel hup hl3
      go_wp2_with fail
      refine (readCanon_at g (p + l1 + L) cap (num s (8 * k)) q l3 _ rfl _ (num_lt s _) (by omega) HL3.out hqL3 HC4.out).mono ?_
      rintro e w3 ⟨rfl, rfl⟩
      go_wp2_with (go_at_call 14; refine (bigEndianAt_at s (8 * k) _ (by omega) _ (by unfold maxLen; omega) h8k).mono ?_; rintro e w4 ⟨rfl, rfl⟩)
      go_round
      case rel => exact ⟨k + 1, q + l3, by omega, by go_num, by go_num, by have h1 := HQ.out; have h2 := HL3.out; simp only [enc, List.length_append]; omega⟩
      case measure => simp [intOf]; omega
    · have hke : k = s.size / 8 := by omega
      have hge : p + l1 + L ≤ q := by have h1 := HQ.out; have h2 := HE.out; rw [hke] at h1; omega
      have hne : (8 * (k : Int) != (s.size : Int)) = false := by have := HS8.out; simp; omega
      clear hke
      go_wp2
      go_ret2
      exact ⟨by go_num, rfl⟩

/-- From w to w', and v (n elements) to v' (n' elements): of the old blocks only v's own may have been written, and not in its first n cells; v' lies in v's own block or in a new one. -/
structure Grew (w w' : World) (v v' : Value) (n n' : Nat) : Prop where
  by_ : w.grownBy w' v.ownBlock
  at_ : v'.ownBlock = v.ownBlock ∨ ∃ k, v'.ownBlock = some k ∧ w.heap.size ≤ k
  le : n ≤ n'
  keep : ∀ g, v.ownBlock = some g → g < w.heap.size → ∀ j, j < n → w'.cell? ⟨g, j, none⟩ = w.cell? ⟨g, j, none⟩

theorem Grew.refl (w : World) (v : Value) (n : Nat) : Grew w w v v n n := ⟨World.grownBy.refl _ _, Or.inl rfl, Nat.le_refl _, fun _ _ _ _ _ => rfl⟩

theorem Grew.trans {w w1 w2 : World} {v v1 v2 : Value} {n n1 n2 : Nat} (h : Grew w w1 v v1 n n1) (k : Grew w1 w2 v1 v2 n1 n2) : Grew w w2 v v2 n n2 := by
  refine ⟨⟨k.by_.os.trans h.by_.os, k.by_.tape.trans h.by_.tape, k.by_.output.trans h.by_.output, Nat.le_trans h.by_.size k.by_.size, fun i hi hne => ?_⟩, ?_, Nat.le_trans h.le k.le, fun g hg hlt j hj => ?_⟩
  · refine (k.by_.block i (Nat.lt_of_lt_of_le hi h.by_.size) ?_).trans (h.by_.block i hi hne)
    rcases h.at_ with h1 | ⟨j, h1, h2⟩
    · rw [h1]; exact hne
    · rw [h1]; intro e; cases e; omega
  · rcases k.at_ with k1 | ⟨j, k1, k2⟩
    · rw [k1]; exact h.at_
    · exact Or.inr ⟨j, k1, Nat.le_trans h.by_.size k2⟩
  · refine Eq.trans ?_ (h.keep g hg hlt j hj)
    have hlt1 := Nat.lt_of_lt_of_le hlt h.by_.size
    by_cases e : v1.ownBlock = some g
    · exact k.keep g e hlt1 j (Nat.lt_of_lt_of_le hj h.le)
    · exact World.cell?_of_block (a := ⟨g, j, none⟩) (k.by_.block g hlt1 (fun e' => e e'.symm))

theorem Grew.alloc {w w1 : World} {v v1 : Value} {n n1 : Nat} (h : Grew w w1 v v1 n n1) (o : Obj) : Grew w (w1.alloc o) v v1 n n1 :=
  ⟨⟨h.by_.os, h.by_.tape, h.by_.output, Nat.le_trans h.by_.size (by simp), fun i hi hne => (Below.heap_alloc w1 o i (Nat.lt_of_lt_of_le hi h.by_.size)).trans (h.by_.block i hi hne)⟩, h.at_, h.le,
    fun g hg hlt j hj => (World.cell?_of_block (a := ⟨g, j, none⟩) (Below.heap_alloc w1 o g (Nat.lt_of_lt_of_le hlt h.by_.size))).trans (h.keep g hg hlt j hj)⟩

theorem Grew.drew {w w1 : World} {v v1 : Value} {n n1 : Nat} (h : Grew w w1 v v1 n n1) : Grew w w1.drew v v1 n n1 :=
  ⟨⟨h.by_.os, h.by_.tape, h.by_.output, h.by_.size, h.by_.block⟩, h.at_, h.le, h.keep⟩

/-- What an appending function leaves. -/
def AppPost (w : World) (sv : Value) (n n' : Nat) (xs : List Value) (e : Ending) (w' : World) : Prop :=
  ∃ v', e = .returned v' ∧ w'.ownsRow 0 5 1 v' n' xs ∧ Grew w w' sv v' n n'

/-- append onto an owned slice of bytes: what it owns then, and that its first cells stand. -/
theorem run_app (w : World) (ty : TypeId) (v : Value) (n : Nat) (xs : List Value) (hown : w.ownsRow 0 5 1 v n xs) (a : Addr) (m c : Nat) (news : List Value) (hl : news.length = m * 1)
    (hnews : ∀ j u, news[j]? = some u → w.cell? (a.add j) = some u) (h1 : ∀ u ∈ news, u.oneCell' = true) (hlim : n + m ≤ 8388608) :
    ∃ v' w', (Builtin.append_ #[22, 22] ty #[v, .slice (some a) m c]).run Tryf.prog w = .ok v' w' ∧ w'.ownsRow 0 5 1 v' (n + m) (xs ++ news) ∧ Grew w w' v v' n (n + m) := by
  obtain ⟨i0, hi, hz0, hz1, hz2⟩ := info_parts info5
  obtain ⟨v', w', hr, h2, h3, h4, h5⟩ := run_append_own_at (P := Tryf.prog) w 0 22 ty 5 i0 (.int .u8 0) 1 1 Tryf.underlying22 hi hz0 hz1 hz2 rfl (by decide) v n xs hown a m c news hl hnews h1 (by unfold maxLen; omega) (by omega) (Nat.zero_le _)
  have h6 : v'.ownBlock = v.ownBlock ∨ ∃ k, v'.ownBlock = some k ∧ w.heap.size ≤ k := by
    rcases h5 with e | e
    · exact Or.inl e
    · exact Or.inr ⟨_, e, Nat.le_refl _⟩
  refine ⟨v', w', hr, h2, h3, h6, Nat.le_add_right _ _, fun g hg hlt j hj => ?_⟩
  rcases hown.2 with ⟨rfl, rfl⟩ | ⟨g', cap, cur, rfl, _, hgg, hnc, hcm, hcs, htake⟩
  · simp [Value.ownBlock] at hg
  · simp only [Value.ownBlock, Option.some.injEq] at hg
    subst hg
    by_cases hroom : n + m ≤ cap
    · obtain ⟨w2, hr2, ho2, _⟩ := run_append_fits (P := Tryf.prog) w 0 22 ty 5 i0 1 Tryf.underlying22 hi hz1 g' n cap xs hown a m c news hl hnews h1 hroom
      rw [hr] at hr2
      injection hr2 with e1 e2
      subst e1; subst e2
      rw [ho2.cellAt j (by omega), hown.cellAt j (by omega), List.getElem?_append_left (by have := hown.1; omega)]
    · have hr2 := run_append_grow (P := Tryf.prog) w 22 ty 5 i0 (.int .u8 0) Tryf.underlying22 hi hz0 ⟨g', 0, none⟩ n cap xs (by rw [hz1]; exact hown.1) (hown.cells (g := g') rfl) a m c news (by rw [hz1]; exact hl) hnews (by omega) (by omega) (growslice_fits (by omega) (by rw [hz2]; omega))
      rw [hr] at hr2
      injection hr2 with e1 e2
      subst e2
      exact World.cell?_of_block (a := ⟨g', j, none⟩) (Below.heap_alloc w.drew _ g' hlt)

/-- The same for the walk. -/
theorem wpList_app (w : World) {ops : Array Oper} {rest : List Oper} {o : Oper} {a : Act} {Q : Exit → Act → World → Prop} (hgd : o.guard = none) (s x : Operand)
    (ho : o.op = .call { callee := .builtin .append, args := #[s, x], argTypes := #[22, 22] })
    (v : Value) (n : Nat) (xs : List Value) (hs : a.eval s = v) (hown : w.ownsRow 0 5 1 v n xs)
    (ad : Addr) (m c : Nat) (news : List Value) (hx : a.eval x = .slice (some ad) m c) (hl : news.length = m * 1) (hnews : ∀ j u, news[j]? = some u → w.cell? (ad.add j) = some u) (h1 : ∀ u ∈ news, u.oneCell' = true)
    (hlim : n + m ≤ 8388608)
    (h : ∀ v' w', w'.ownsRow 0 5 1 v' (n + m) (xs ++ news) → Grew w w' v v' n (n + m) → wpList Tryf.prog ops Q rest (a.put o.dst v') w') :
    wpList Tryf.prog ops Q (o :: rest) a w := by
  refine wpList_plain hgd fun K hK => ?_
  obtain ⟨v', w', hr, h2, h3⟩ := run_app w o.type v n xs hown ad m c news hl hnews h1 hlim
  unfold Oper.wp execOp
  simp only [ho, resolve, invoke, builtin, Sem.run_bind, Sem.run_pure, Result.andThen_ok, List.map_toArray, List.map_cons, List.map_nil, hs, hx, hr]
  exact hK _ _ (h v' w' h2 h3)

set_option maxRecDepth 20000 in
set_option maxHeartbeats 400000 in
theorem appendUvarint_any (n x : Nat) (hx : x < 18446744073709551616) (sv : Value) (xs : List Value) (w : World) (hown : w.ownsRow 0 5 1 sv n xs) (hlim : n + 10 ≤ 8388608) :
    Calls Tryf.prog 22 #[sv, .int .u64 x] w fun e w' => AppPost w sv n (n + (Lib.uvarint x).length) (xs ++ Lib.byteCells (Lib.uvarint x)) e w' := by
  have hlen := Lib.uvarint_length64 hx
  have HX : Hid (x < 18446744073709551616) := hx
  clear hx
  go_enter Tryf.func22, Tryf.ntmps22
  go_wp2
  go_loopw [0, 1] (fun vb vx wr => ∃ (y : Nat) (pre : List UInt8), vx = .int .u64 y ∧ y ≤ x ∧ Lib.uvarint x = pre ++ Lib.uvarint y ∧ wr.ownsRow 0 5 1 vb (n + pre.length) (xs ++ Lib.byteCells pre) ∧ Grew w wr sv vb n (n + pre.length))
    (fun _ vx _ => (intOf vx).toNat)
  case atStart => exact ⟨x, [], rfl, Nat.le_refl _, rfl, by simpa [Lib.byteCells] using hown, Grew.refl _ _ _⟩
  case round =>
    obtain ⟨y, pre, rfl, hy, hsplit, hown1, hgr⟩ := hrel
    have hpl : pre.length + (Lib.uvarint y).length ≤ 10 := by
      have h2 := congrArg List.length hsplit
      rw [List.length_append] at h2
      omega
    have hyp := Lib.uvarint_pos y
    have HSP : Hid (Lib.uvarint x = pre ++ Lib.uvarint y) := hsplit
    clear hsplit
    by_cases h128 : 128 ≤ y
    · have hor : bits .or .u8 ((y : Int) % 256) 128 = ((y % 128 + 128 : Nat) : Int) := by
        rw [Lib.u8_or128_any _ (by omega) (by omega)]
        omega
      go_wp2_with (at_builtin; refine wpList_app _ rfl _ _ rfl _ _ _ rfl (hown1.alloc _) ⟨wr.heap.size, 0, none⟩ 1 1 [Value.int .u8 ((y % 128 + 128 : Nat) : Int)] rfl rfl (by intro j u hj; match j, hj with | 0, hj => simp at hj; subst hj; simp [Addr.add]) (by intro u hu; simp at hu; subst hu; rfl) (by omega) ?_)
      intro v' w1 hown' hgrow
      go_wp2
      go_roundw
      case rel =>
        refine ⟨y / 128, pre ++ [(y % 128 + 128).toUInt8], by go_num, by omega, by rw [HSP.out, Lib.uvarint_big h128]; simp, ?_, ?_⟩
        rotate_left
        · rw [List.length_append, List.length_singleton, ← Nat.add_assoc]; exact (hgr.alloc _).trans hgrow
        rw [Lib.byteCells_snoc pre (by omega), List.length_append, List.length_singleton, ← Nat.add_assoc]
        have ec : ((y % 128 + 128 : Nat) : Int) = (y : Int) % 128 + 128 := by omega
        rw [ec]; exact hown'
      case measure => simp [intOf]; omega
    · have hsm : Hid (Lib.uvarint y = [y.toUInt8]) := Lib.uvarint_small (by omega)
      go_wp2_with (at_builtin; refine wpList_app _ rfl _ _ rfl _ _ _ rfl (hown1.alloc _) ⟨wr.heap.size, 0, none⟩ 1 1 [Value.int .u8 (y : Int)] rfl rfl (by intro j u hj; match j, hj with | 0, hj => simp at hj; subst hj; simp [Addr.add]) (by intro u hu; simp at hu; subst hu; rfl) (by omega) ?_)
      intro v' w1 hown' hgrow
      go_wp2
      go_ret
      refine ⟨v', rfl, ?_, ?_⟩
      rotate_left
      · rw [HSP.out, hsm.out, List.length_append, List.length_singleton, ← Nat.add_assoc]; exact (hgr.alloc _).trans hgrow
      rw [HSP.out, hsm.out, Lib.byteCells_snoc pre (by omega), List.length_append, List.length_singleton, ← Nat.add_assoc]
      exact hown'

/-- The flag's byte. -/
def flag (f : Bool) : Int := if f then 1 else 0

set_option maxRecDepth 20000 in
set_option maxHeartbeats 400000 in
theorem appendFlag_any (n : Nat) (f : Bool) (sv : Value) (xs : List Value) (w : World) (hown : w.ownsRow 0 5 1 sv n xs) (hlim : n + 10 ≤ 8388608) :
    Calls Tryf.prog 17 #[sv, .bool f] w fun e w' => AppPost w sv n (n + 1) (xs ++ [.int .u8 (flag f)]) e w' := by
  cases f
  · go_enter Tryf.func17, Tryf.ntmps17
    go_wp2_with (at_builtin; refine wpList_app _ rfl _ _ rfl _ _ _ rfl (hown.alloc _) ⟨w.heap.size, 0, none⟩ 1 1 [Value.int .u8 0] rfl rfl (by intro j u hj; match j, hj with | 0, hj => simp at hj; subst hj; simp [Addr.add]) (by intro u hu; simp at hu; subst hu; rfl) (by omega) ?_)
    intro v' w1 hown' hgrow
    go_wp2
    go_ret
    exact ⟨v', rfl, hown', ((Grew.refl _ _ _).alloc _).trans hgrow⟩
  · go_enter Tryf.func17, Tryf.ntmps17
    go_wp2_with (at_builtin; refine wpList_app _ rfl _ _ rfl _ _ _ rfl (hown.alloc _) ⟨w.heap.size, 0, none⟩ 1 1 [Value.int .u8 1] rfl rfl (by intro j u hj; match j, hj with | 0, hj => simp at hj; subst hj; simp [Addr.add]) (by intro u hu; simp at hu; subst hu; rfl) (by omega) ?_)
    intro v' w1 hown' hgrow
    go_wp2
    go_ret
    exact ⟨v', rfl, hown', ((Grew.refl _ _ _).alloc _).trans hgrow⟩

/-- A slice that owns at least one element shows its address. -/
theorem owns_shape {w : World} {v : Value} {n : Nat} {xs : List Value} (h : w.ownsRow 0 5 1 v n xs) (hn : 0 < n) :
    ∃ g cap, v = .slice (some ⟨g, 0, none⟩) n cap ∧ n ≤ cap := by
  rcases h.2 with ⟨_, h0⟩ | ⟨g, cap, cur, hv, _, _, hnc, _⟩
  · omega
  · exact ⟨g, cap, hv, hnc⟩

theorem byteCells_oneCell (l : List UInt8) : ∀ u ∈ Lib.byteCells l, u.oneCell' = true := by
  intro u hu
  simp only [Lib.byteCells, List.mem_map] at hu
  obtain ⟨b, _, rfl⟩ := hu
  rfl

set_option maxRecDepth 20000 in
set_option maxHeartbeats 400000 in
theorem appendSized_any (n m : Nat) (sv pv : Value) (xs : List Value) (l : List UInt8) (w : World) (hown : w.ownsRow 0 5 1 sv n xs) (hp : w.ownsRow 0 5 1 pv m (Lib.byteCells l)) (hm : 0 < m) (hne : pv.ownBlock ≠ sv.ownBlock) (hlim : n + m + 10 ≤ 8388608) :
    Calls Tryf.prog 21 #[sv, pv] w fun e w' => AppPost w sv n (n + (Lib.uvarint m).length + m) (xs ++ (Lib.byteCells (Lib.uvarint m) ++ Lib.byteCells l)) e w' := by
  obtain ⟨gp, capp, rfl, hcp⟩ := owns_shape hp hm
  have hul := Lib.uvarint_length64 (x := m) (by omega)
  go_enter Tryf.func21, Tryf.ntmps21
  go_wp2_with fail
  refine (appendUvarint_any n m (by omega) sv xs _ hown (by omega)).mono ?_
  rintro e w1 ⟨v1, rfl, hown1, hgr⟩
  have hp1 : w1.ownsRow 0 5 1 (.slice (some ⟨gp, 0, none⟩) m capp) m (Lib.byteCells l) := hp.kept hgr.by_ (Or.inr hne)
  go_wp2_with (at_builtin; refine wpList_app _ rfl _ _ rfl _ _ _ rfl hown1 ⟨gp, 0, none⟩ m capp (Lib.byteCells l) rfl hp1.1 (hp1.cells rfl) (byteCells_oneCell l) (by omega) ?_)
  intro v' w2 hown' hgrow
  go_wp2
  go_ret
  exact ⟨v', rfl, hown', hgr.trans hgrow⟩
end Go.Proofs.Qxb6604357aFmt
