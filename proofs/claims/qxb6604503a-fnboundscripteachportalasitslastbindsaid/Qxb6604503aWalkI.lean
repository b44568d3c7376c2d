/-
  The walks of seat b6604503a, ninth part: what both laws begin with; FnBoundRecordsWhatTheStatementMayDrop.
-/
import Derived.Test.Qxb6604503aWalkB
import Derived.Test.Qxb6604503aWalkH
namespace Go.Proofs.Qxb6604503a
open Go.RowKit Go.Maps

/-- What is known of a slice of strings that came in. -/
structure InS (w : World) (a : Option Addr) (ss : List ByteArray) (cap : Nat) : Prop where
  holds : HS w a ss
  nil : a = none → ss = [] ∧ cap = 0
  len : ss.length ≤ maxLen
  sz : ∀ s ∈ ss, s.size ≤ maxLen
structure InB (w : World) (a : Option Addr) (bs : List Bool) (cap : Nat) : Prop where
  holds : HB w a bs
  nil : a = none → bs = [] ∧ cap = 0
  len : bs.length ≤ maxLen

/-- What the law leaves: true; nothing old has turned. -/
def LawPost (w : World) (e : Ending) (w' : World) : Prop := e = .returned (.bool true) ∧ Below w.heap.size w w'

/-- What lies ready behind the clones. -/
structure Ready (w0 w : World) (ak aa ad ap av : Option Addr) (ks : List ByteArray) (bs : List Bool) (ds pk pv : List ByteArray) : Prop where
  k : HS w ak ks
  a : HB w aa bs
  d : HS w ad ds
  p : HS w ap pk
  v : HS w av pv
  below : Below w0.heap.size w0 w

theorem Ready.eff {w0 w w' : World} {ak aa ad ap av : Option Addr} {ks : List ByteArray} {bs : List Bool} {ds pk pv : List ByteArray} {row : Option Nat} (h : Ready w0 w ak aa ad ap av ks bs ds pk pv) (he : Eff w w' row) (hr : ∀ r, row = some r → w0.heap.size ≤ r) :
    Ready w0 w' ak aa ad ap av ks bs ds pk pv :=
  ⟨h.k.eff he, h.a.eff he, h.d.eff he, h.p.eff he, h.v.eff he, h.below.grown he.grown h.below.size hr⟩

theorem look_sz {ks : List ByteArray} {bs : List Bool} {ds : List ByteArray} (hd : ∀ s ∈ ds, s.size ≤ maxLen) : ∀ (k : Nat) (s : ByteArray) (q : Bool × ByteArray), look ks bs ds k s = some q → q.2.size ≤ maxLen
  | 0, _, _, h => by simp [look] at h
  | k + 1, s, q, h => by
    unfold look at h
    split at h
    · simp only [Option.some.injEq] at h
      subst h
      show (ds.getD k ByteArray.empty).size ≤ maxLen
      rw [List.getD_eq_getElem?_getD]
      cases hk : ds[k]? with
      | none => exact Nat.zero_le _
      | some x => exact hd x (List.mem_of_getElem? hk)
    · exact look_sz hd k s q h

theorem dropsOf_sz {ks : List ByteArray} {bs : List Bool} {ds : List ByteArray} {ua : Bool} {un name : ByteArray} (hd : ∀ s ∈ ds, s.size ≤ maxLen) (hu : un.size ≤ maxLen) : (dropsOf ks bs ds ua un name).2.size ≤ maxLen := by
  unfold dropsOf
  split
  · exact hu
  · cases h : look ks bs ds ks.length (cutName name) with
    | none => exact Nat.zero_le _
    | some q => exact look_sz hd _ _ _ h

theorem tab_isMap (pk pv : List ByteArray) : ∀ k, IsMap (tab pk pv k)
  | 0 => ⟨[], rfl⟩
  | k + 1 => (tab_isMap pk pv k).put _ _

theorem hs_one (w : World) (s : ByteArray) : HS (w.alloc (.cells #[.string s] 9)) (some ⟨w.heap.size, 0, none⟩) [s] := by
  intro i hi
  have : i = 0 := by simp at hi; exact hi
  subst this
  exact ⟨_, _, rfl, cell_of_row _ _ 0 _ 9 (0, 0) (heap_alloc_new w _)⟩

set_option maxRecDepth 20000 in
set_option maxHeartbeats 1000000 in
theorem records_any (ak aa ad ap av : Option Addr) (ks : List ByteArray) (bs : List Bool) (ds pk pv : List ByteArray) (ck ca cd cp cv : Nat) (ua : Bool) (un po nm : ByteArray) (w : World)
    (i1 : InS w ak ks ck) (i2 : InB w aa bs ca) (i3 : InS w ad ds cd) (i4 : InS w ap pk cp) (i5 : InS w av pv cv) (zu : un.size ≤ maxLen) (zp : po.size ≤ maxLen) (zn : nm.size ≤ maxLen) :
    Calls Try.prog 5 #[.slice ak ks.length ck, .slice aa bs.length ca, .slice ad ds.length cd, .bool ua, .string un, .slice ap pk.length cp, .slice av pv.length cv, .string po, .string nm] w fun e w' => LawPost w e w' := by
  go_enter Try.func5, Try.ntmps5
  go_wp2_with fail
  refine (zzBytes11 ak ad ap av aa ks ds pk pv bs.length ck cd cp cv ca ua un po nm w i1.len i1.holds i3.len i3.holds i4.len i4.holds i5.len i5.holds i2.len zu zp zn).mono ?_
  rintro e w' ⟨b, rfl, hbd, hw⟩
  obtain rfl : w = w' := hw.symm
  cases b
  · go_wp2_with fail
    go_ret
    exact ⟨rfl, Below.refl _ _⟩
  obtain ⟨m1, m3, m4, m5, m2, mu, mp, mn⟩ := hbd rfl
  clear hbd
  go_wp2_with fail
  refine (tooBig_any ak aa ad ap av ks ds pk pv bs.length ck ca cd cp cv _ w i1.len i3.len i4.len i5.len i1.holds i3.holds i4.holds i5.holds).mono ?_
  rintro e w' ⟨b, rfl, _, hw⟩
  obtain rfl : w = w' := hw.symm
  cases b
  rotate_left
  · go_wp2_with fail
    go_ret
    exact ⟨rfl, Below.refl _ _⟩
  go_wp2_with fail
  refine (shaped_any ak aa ad ap av ks bs.length ds.length pk.length pv.length ck ca cd cp cv w i1.len i1.holds).mono ?_
  rintro e w' ⟨b, rfl, hsh, hw⟩
  obtain rfl : w = w' := hw.symm
  cases b
  · go_wp2_with fail
    go_ret
    exact ⟨rfl, Below.refl _ _⟩
  have HSH : Hid (bs.length = ks.length ∧ ds.length = ks.length ∧ pv.length = pk.length) := hsh rfl
  clear hsh
  go_wp2_with fail
  refine (cloneS_any ak ks ck w m1 i1.nil i1.holds).mono ?_
  rintro e w1 ⟨ak1, ck1, rfl, g1, b1⟩
  have e1 := Eff.of_below b1
  have j2 := i2.holds.eff e1
  have j3 := i3.holds.eff e1
  have j4 := i4.holds.eff e1
  have j5 := i5.holds.eff e1
  go_wp2_with fail
  refine (cloneB_any aa bs ca w1 m2 i2.nil j2).mono ?_
  rintro e w2 ⟨aa1, ca1, rfl, g2, b2⟩
  have e2 := Eff.of_below b2
  replace g1 := g1.eff e2
  replace j3 := j3.eff e2
  replace j4 := j4.eff e2
  replace j5 := j5.eff e2
  have t2 : Below w.heap.size w w2 := b1.trans (b2.mono b1.size)
  clear b1 b2 e1 e2 j2
  go_wp2_with fail
  refine (cloneS_any ad ds cd w2 m3 i3.nil j3).mono ?_
  rintro e w3 ⟨ad1, cd1, rfl, g3, b3⟩
  have e3 := Eff.of_below b3
  replace g1 := g1.eff e3
  replace g2 := g2.eff e3
  replace j4 := j4.eff e3
  replace j5 := j5.eff e3
  have t3 : Below w.heap.size w w3 := t2.trans (b3.mono t2.size)
  clear t2 b3 e3 j3
  go_wp2_with fail
  refine (cloneS_any ap pk cp w3 m4 i4.nil j4).mono ?_
  rintro e w4 ⟨ap1, cp1, rfl, g4, b4⟩
  have e4 := Eff.of_below b4
  replace g1 := g1.eff e4
  replace g2 := g2.eff e4
  replace g3 := g3.eff e4
  replace j5 := j5.eff e4
  have t4 : Below w.heap.size w w4 := t3.trans (b4.mono t3.size)
  clear t3 b4 e4 j4
  go_wp2_with fail
  refine (cloneS_any av pv cv w4 m5 i5.nil j5).mono ?_
  rintro e w5 ⟨av1, cv1, rfl, g5, b5⟩
  have e5 := Eff.of_below b5
  have R5 : Ready w w5 ak1 aa1 ad1 ap1 av1 ks bs ds pk pv := ⟨g1.eff e5, g2.eff e5, g3.eff e5, g4.eff e5, g5, t4.trans (b5.mono t4.size)⟩
  clear g1 g2 g3 g4 g5 t4 b5 e5 j5
  obtain ⟨l2, l3, l5⟩ := HSH.out
  have zk := i1.sz
  have zd := i3.sz
  have zk4 := i4.sz
  have zv := i5.sz
  rw [l2, l3, l5]
  have L2 : Hid (bs.length = ks.length) := l2
  have L3 : Hid (ds.length = ks.length) := l3
  have L5 : Hid (pv.length = pk.length) := l5
  clear i1 i2 i3 i4 i5 l2 l3 l5 HSH m2 m3 m5
  have hlz := look_sz (ks := ks) (bs := bs) zd ks.length
  go_wp2_with fail
  refine (new_any ak1 aa1 ad1 ap1 av1 ks bs ds pk pv ck1 ca1 cd1 cp1 cv1 ua un w5 m1 L2.out L3.out m4 L5.out zk zk4 zv R5.k R5.a R5.d R5.p R5.v).mono ?_
  rintro e w6 ⟨C, bN, bP, rfl, S, hN, hP, b6⟩
  have R6 := R5.eff (Eff.of_below b6) (fun r hr => by cases hr)
  have o1 : w.heap.size ≤ bP := Nat.le_trans R5.below.size hP
  clear R5 b6 hN hP
  go_wp2_with fail
  refine (zzBound_any w6 C bN bP ua un _ _ _ _ S po nm zp zn zu hlz (by unfold maxLen; omega)).mono ?_
  rintro e w7 ⟨rfl, S7, g7⟩
  have R7 := R6.eff ⟨g7, fun r hr => by cases hr; exact ownsMap_isMap S.ports⟩ (fun r hr => by cases hr; exact o1)
  clear R6 S g7
  go_wp2_with fail
  refine (new_any ak1 aa1 ad1 ap1 av1 ks bs ds pk pv ck1 ca1 cd1 cp1 cv1 ua un w7 m1 L2.out L3.out m4 L5.out zk zk4 zv R7.k R7.a R7.d R7.p R7.v).mono ?_
  rintro e w8 ⟨C2, bN2, bP2, rfl, T, hN2, hP2, b8⟩
  have R8 := R7.eff (Eff.of_below b8) (fun r hr => by cases hr)
  have S8 := S7.eff (Eff.of_below b8) (by simp) (by simp)
  have o2 : w.heap.size ≤ bP2 := Nat.le_trans R7.below.size hP2
  have x1 : some bN ≠ some bP2 := by
    obtain ⟨DN, hn, _⟩ := S7.named
    have := hn.lt
    intro e; cases e; omega
  have x2 : some bP ≠ some bP2 := by
    have := S7.ports.lt
    intro e; cases e; omega
  clear R7 b8 hN2 hP2 S7
  go_wp2_with fail
  refine (zzBound_any w8 C2 bN2 bP2 ua un _ _ _ _ T po nm zp zn zu hlz (by unfold maxLen; omega)).mono ?_
  rintro e w9 ⟨rfl, T9, g9⟩
  have e9 : Eff w8 w9 (some bP2) := ⟨g9, fun r hr => by cases hr; exact ownsMap_isMap T.ports⟩
  have R9 := R8.eff e9 (fun r hr => by cases hr; exact o2)
  have S9 := S8.eff e9 x1 x2
  clear R8 S8 T g9 e9
  go_wp2_with fail
  refine (zzBound_any w9 C2 bN2 bP2 ua un _ _ _ _ T9 po nm zp zn zu hlz (by unfold maxLen; omega)).mono ?_
  rintro e w10 ⟨rfl, T10, g10⟩
  have e10 : Eff w9 w10 (some bP2) := ⟨g10, fun r hr => by cases hr; exact ownsMap_isMap T9.ports⟩
  have R10 := R9.eff e10 (fun r hr => by cases hr; exact o2)
  have S10 := S9.eff e10 x1 x2
  clear R9 S9 T9 g10 e10
  go_wp2_with fail
  refine (table_any ap1 av1 pk pv cp1 cv1 w10 m4 L5.out R10.p R10.v zk4 zv).mono ?_
  rintro e w11 ⟨bW, rfl, hW, U, b11⟩
  have e11 := Eff.of_below b11
  have R11 := R10.eff e11 (fun r hr => by cases hr)
  have S11 := S10.eff e11 (by simp) (by simp)
  have T11 := T10.eff e11 (by simp) (by simp)
  have o3 : w.heap.size ≤ bW := Nat.le_trans R10.below.size hW
  have y1 : some bN ≠ some bW := by
    obtain ⟨DN, hn, _⟩ := S10.named
    have := hn.lt
    intro e; cases e; omega
  have y2 : some bP ≠ some bW := by
    have := S10.ports.lt
    intro e; cases e; omega
  have y3 : some bN2 ≠ some bW := by
    obtain ⟨DN, hn, _⟩ := T10.named
    have := hn.lt
    intro e; cases e; omega
  have y4 : some bP2 ≠ some bW := by
    have := T10.ports.lt
    intro e; cases e; omega
  clear R10 S10 T10 b11 e11 hW
  go_wp2_with fail
  refine (zzDropsOf_any ak1 aa1 ad1 ks bs ds ck1 ca1 cd1 ua un nm w11 m1 L2.out L3.out zn R11.k R11.a R11.d).mono ?_
  rintro e w12 ⟨rfl, n12, rfl⟩
  have hdz := dropsOf_sz (ks := ks) (bs := bs) (ua := ua) (name := nm) zd zu
  obtain ⟨r, hr⟩ : ∃ r, r = dropsOf ks bs ds ua un nm := ⟨_, rfl⟩
  rw [← hr] at hdz ⊢
  rw [dropsLk_eq, ← hr] at S11 T11
  clear hr
  go_wp2_with fail
  refine (recordBind_any bW pk.length (tab pk pv pk.length) po r.2 r.1 (w11.drewN n12) zp hdz (by unfold maxLen; omega) U).mono ?_
  rintro e w13 ⟨rfl, U13, g13⟩
  have e13 : Eff w11 w13 (some bW) := ⟨⟨g13.os, g13.tape, g13.output, g13.size, g13.block⟩, fun r hr => by cases hr; exact ownsMap_isMap U⟩
  have R13 := R11.eff e13 (fun r hr => by cases hr; exact o3)
  have S13 := S11.eff e13 y1 y2
  have T13 := T11.eff e13 y3 y4
  clear R11 S11 T11 U g13 e13
  have hIs : IsMap (tab pk pv pk.length) := tab_isMap pk pv _
  have hD2 := bindD_twice hIs po r (T13.ports.canon law) (U13.canon law)
  rw [hD2] at T13
  clear hD2 hIs
  have R14 := R13.eff (eff_alloc w13 (.cells #[.string po] 9)) (fun r hr => by cases hr)
  have S14 := S13.alloc (.cells #[.string po] 9)
  have T14 := T13.alloc (.cells #[.string po] 9)
  have U14 := U13.alloc (.cells #[.string po] 9)
  have P14 := hs_one w13 po
  clear R13 S13 T13 U13
  go_wp2_with fail
  refine (dropPortals_any C bP _ S14.c6).mono ?_
  rintro e w15 ⟨rfl, hw15⟩
  rw [hw15]
  clear hw15
  go_wp2_with fail
  refine (sameTable_any bP bW _ _ _ ap1 _ pk [po] cp1 1 _ m4 (by simp) zk4 (by intro s hs; simp at hs; subst hs; exact zp) S14.ports U14 R14.p P14).mono ?_
  rintro e w16 ⟨rfl, hw16⟩
  rw [hw16]
  clear hw16
  go_wp2_with fail
  refine (dropPortals_any C2 bP2 _ T14.c6).mono ?_
  rintro e w17 ⟨rfl, hw17⟩
  rw [hw17]
  clear hw17
  go_wp2_with fail
  refine (sameTable_any bP2 bW _ _ _ ap1 _ pk [po] cp1 1 _ m4 (by simp) zk4 (by intro s hs; simp at hs; subst hs; exact zp) T14.ports U14 R14.p P14).mono ?_
  rintro e w18 ⟨rfl, hw18⟩
  rw [hw18]
  clear hw18
  go_wp2
  go_ret
  exact ⟨rfl, R14.below⟩
end Go.Proofs.Qxb6604503a
