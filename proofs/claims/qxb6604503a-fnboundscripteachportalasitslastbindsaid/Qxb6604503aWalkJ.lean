/-
  The walks of seat b6604503a, tenth part: FnBoundScriptEachPortalAsItsLastBind.
-/
import Derived.Test.Qxb6604503aWalkC
import Derived.Test.Qxb6604503aWalkI
namespace Go.Proofs.Qxb6604503a
open Go.RowKit Go.Maps

theorem hs_two (w : World) (s t : ByteArray) : HS (w.alloc (.cells #[.string s, .string t] 9)) (some ⟨w.heap.size, 0, none⟩) [s, t] := by
  intro i hi
  match i, hi with
  | 0, _ => exact ⟨_, _, rfl, cell_of_row _ _ 0 _ 9 (0, 0) (heap_alloc_new w _)⟩
  | 1, _ => exact ⟨_, _, rfl, cell_of_row _ _ 1 _ 9 (0, 0) (heap_alloc_new w _)⟩

set_option maxRecDepth 20000 in
set_option maxHeartbeats 1600000 in
theorem script_any (ak aa ad ap av : Option Addr) (ks : List ByteArray) (bs : List Bool) (ds pk pv : List ByteArray) (ck ca cd cp cv : Nat) (ua : Bool) (un p q s1 s2 s3 : ByteArray) (w : World)
    (i1 : InS w ak ks ck) (i2 : InB w aa bs ca) (i3 : InS w ad ds cd) (i4 : InS w ap pk cp) (i5 : InS w av pv cv) (zu : un.size ≤ maxLen) (zp : p.size ≤ maxLen) (zq : q.size ≤ maxLen) (y1 : s1.size ≤ maxLen) (y2 : s2.size ≤ maxLen) (y3 : s3.size ≤ maxLen) :
    Calls Try.prog 6 #[.slice ak ks.length ck, .slice aa bs.length ca, .slice ad ds.length cd, .bool ua, .string un, .slice ap pk.length cp, .slice av pv.length cv, .string p, .string q, .string s1, .string s2, .string s3] w fun e w' => LawPost w e w' := by
  go_enter Try.func6, Try.ntmps6
  go_wp2_with fail
  refine (zzBytes23 ak ad ap av aa ks ds pk pv bs.length ck cd cp cv ca ua un p q s1 s2 s3 w i1.len i1.holds i3.len i3.holds i4.len i4.holds i5.len i5.holds i2.len zu zp zq y1 y2 y3).mono ?_
  rintro e w' ⟨b, rfl, hbd, hw⟩
  obtain rfl : w = w' := hw.symm
  cases b
  · go_wp2_with fail
    go_ret
    exact ⟨rfl, Below.refl _ _⟩
  obtain ⟨m1, m3, m4, m5, m2, mu, mp, mq, f1, f2, f3⟩ := hbd rfl
  clear hbd
  go_wp2_with fail
  refine (tooBig_any ak aa ad ap av ks ds pk pv bs.length ck ca cd cp cv _ w i1.len i3.len i4.len i5.len i1.holds i3.holds i4.holds i5.holds).mono ?_
  rintro e w' ⟨b, rfl, _, hw⟩
  obtain rfl : w = w' := hw.symm
  cases b
  rotate_left
  · go_wp2_with fail
    go_ret
    exact ⟨rfl, Below.refl _ _⟩
  go_wp2_with fail
  refine (shaped_any ak aa ad ap av ks bs.length ds.length pk.length pv.length ck ca cd cp cv w i1.len i1.holds).mono ?_
  rintro e w' ⟨b, rfl, hsh, hw⟩
  obtain rfl : w = w' := hw.symm
  cases b
  · go_wp2_with fail
    go_ret
    exact ⟨rfl, Below.refl _ _⟩
  have HSH : Hid (bs.length = ks.length ∧ ds.length = ks.length ∧ pv.length = pk.length) := hsh rfl
  clear hsh
  go_wp2_with fail
  refine (cloneS_any ak ks ck w m1 i1.nil i1.holds).mono ?_
  rintro e w1 ⟨ak1, ck1, rfl, g1, b1⟩
  have e1 := Eff.of_below b1
  have j2 := i2.holds.eff e1
  have j3 := i3.holds.eff e1
  have j4 := i4.holds.eff e1
  have j5 := i5.holds.eff e1
  go_wp2_with fail
  refine (cloneB_any aa bs ca w1 m2 i2.nil j2).mono ?_
  rintro e w2 ⟨aa1, ca1, rfl, g2, b2⟩
  have e2 := Eff.of_below b2
  replace g1 := g1.eff e2
  replace j3 := j3.eff e2
  replace j4 := j4.eff e2
  replace j5 := j5.eff e2
  have t2 : Below w.heap.size w w2 := b1.trans (b2.mono b1.size)
  clear b1 b2 e1 e2 j2
  go_wp2_with fail
  refine (cloneS_any ad ds cd w2 m3 i3.nil j3).mono ?_
  rintro e w3 ⟨ad1, cd1, rfl, g3, b3⟩
  have e3 := Eff.of_below b3
  replace g1 := g1.eff e3
  replace g2 := g2.eff e3
  replace j4 := j4.eff e3
  replace j5 := j5.eff e3
  have t3 : Below w.heap.size w w3 := t2.trans (b3.mono t2.size)
  clear t2 b3 e3 j3
  go_wp2_with fail
  refine (cloneS_any ap pk cp w3 m4 i4.nil j4).mono ?_
  rintro e w4 ⟨ap1, cp1, rfl, g4, b4⟩
  have e4 := Eff.of_below b4
  replace g1 := g1.eff e4
  replace g2 := g2.eff e4
  replace g3 := g3.eff e4
  replace j5 := j5.eff e4
  have t4 : Below w.heap.size w w4 := t3.trans (b4.mono t3.size)
  clear t3 b4 e4 j4
  go_wp2_with fail
  refine (cloneS_any av pv cv w4 m5 i5.nil j5).mono ?_
  rintro e w5 ⟨av1, cv1, rfl, g5, b5⟩
  have e5 := Eff.of_below b5
  have R5 : Ready w w5 ak1 aa1 ad1 ap1 av1 ks bs ds pk pv := ⟨g1.eff e5, g2.eff e5, g3.eff e5, g4.eff e5, g5, t4.trans (b5.mono t4.size)⟩
  clear g1 g2 g3 g4 g5 t4 b5 e5 j5
  obtain ⟨l2, l3, l5⟩ := HSH.out
  have zk := i1.sz
  have zd := i3.sz
  have zk4 := i4.sz
  have zv := i5.sz
  rw [l2, l3, l5]
  have L2 : Hid (bs.length = ks.length) := l2
  have L3 : Hid (ds.length = ks.length) := l3
  have L5 : Hid (pv.length = pk.length) := l5
  clear i1 i2 i3 i4 i5 l2 l3 l5 HSH m2 m3 m5
  have hlz := look_sz (ks := ks) (bs := bs) zd ks.length
  go_wp2_with fail
  refine (new_any ak1 aa1 ad1 ap1 av1 ks bs ds pk pv ck1 ca1 cd1 cp1 cv1 ua un w5 m1 L2.out L3.out m4 L5.out zk zk4 zv R5.k R5.a R5.d R5.p R5.v).mono ?_
  rintro e w6 ⟨C, bN, bP, rfl, S6, hN, hP, b6⟩
  have R6 := R5.eff (Eff.of_below b6) (fun r hr => by cases hr)
  have o1 : w.heap.size ≤ bP := Nat.le_trans R5.below.size hP
  clear R5 b6 hN hP
  go_wp2_with fail
  refine (zzBound_any w6 C bN bP ua un _ _ _ _ S6 p s1 zp y1 zu hlz (by unfold maxLen; omega)).mono ?_
  rintro e w7 ⟨rfl, S7, g7⟩
  have R7 := R6.eff ⟨g7, fun r hr => by cases hr; exact ownsMap_isMap S6.ports⟩ (fun r hr => by cases hr; exact o1)
  clear R6 S6 g7
  go_wp2_with fail
  refine (zzBound_any w7 C bN bP ua un _ _ _ _ S7 q s2 zq y2 zu hlz (by unfold maxLen; omega)).mono ?_
  rintro e w8 ⟨rfl, S8, g8⟩
  have R8 := R7.eff ⟨g8, fun r hr => by cases hr; exact ownsMap_isMap S7.ports⟩ (fun r hr => by cases hr; exact o1)
  clear R7 S7 g8
  go_wp2_with fail
  refine (zzBound_any w8 C bN bP ua un _ _ _ _ S8 p s3 zp y3 zu hlz (by unfold maxLen; omega)).mono ?_
  rintro e w9 ⟨rfl, S9, g9⟩
  have R9 := R8.eff ⟨g9, fun r hr => by cases hr; exact ownsMap_isMap S8.ports⟩ (fun r hr => by cases hr; exact o1)
  clear R8 S8 g9
  go_wp2_with fail
  refine (new_any ak1 aa1 ad1 ap1 av1 ks bs ds pk pv ck1 ca1 cd1 cp1 cv1 ua un w9 m1 L2.out L3.out m4 L5.out zk zk4 zv R9.k R9.a R9.d R9.p R9.v).mono ?_
  rintro e w10 ⟨C2, bN2, bP2, rfl, T10, hN2, hP2, b10⟩
  have R10 := R9.eff (Eff.of_below b10) (fun r hr => by cases hr)
  have S10 := S9.eff (Eff.of_below b10) (by simp) (by simp)
  have o2 : w.heap.size ≤ bP2 := Nat.le_trans R9.below.size hP2
  have x1 : some bN ≠ some bP2 := by
    obtain ⟨DN, hn, _⟩ := S9.named
    have := hn.lt
    intro e; cases e; omega
  have x2 : some bP ≠ some bP2 := by
    have := S9.ports.lt
    intro e; cases e; omega
  clear R9 b10 hN2 hP2 S9
  go_wp2_with fail
  refine (zzBound_any w10 C2 bN2 bP2 ua un _ _ _ _ T10 q s2 zq y2 zu hlz (by unfold maxLen; omega)).mono ?_
  rintro e w11 ⟨rfl, T11, g11⟩
  have e11 : Eff w10 w11 (some bP2) := ⟨g11, fun r hr => by cases hr; exact ownsMap_isMap T10.ports⟩
  have R11 := R10.eff e11 (fun r hr => by cases hr; exact o2)
  have S11 := S10.eff e11 x1 x2
  clear R10 S10 T10 g11 e11
  go_wp2_with fail
  refine (zzBound_any w11 C2 bN2 bP2 ua un _ _ _ _ T11 p s3 zp y3 zu hlz (by unfold maxLen; omega)).mono ?_
  rintro e w12 ⟨rfl, T12, g12⟩
  have e12 : Eff w11 w12 (some bP2) := ⟨g12, fun r hr => by cases hr; exact ownsMap_isMap T11.ports⟩
  have R12 := R11.eff e12 (fun r hr => by cases hr; exact o2)
  have S12 := S11.eff e12 x1 x2
  clear R11 S11 T11 g12 e12
  go_wp2_with fail
  refine (table_any ap1 av1 pk pv cp1 cv1 w12 m4 L5.out R12.p R12.v zk4 zv).mono ?_
  rintro e w13 ⟨bW, rfl, hW, U13, b13⟩
  have e13 := Eff.of_below b13
  have R13 := R12.eff e13 (fun r hr => by cases hr)
  have S13 := S12.eff e13 (by simp) (by simp)
  have T13 := T12.eff e13 (by simp) (by simp)
  have o3 : w.heap.size ≤ bW := Nat.le_trans R12.below.size hW
  have u1 : some bN ≠ some bW := by
    obtain ⟨DN, hn, _⟩ := S12.named
    have := hn.lt
    intro e; cases e; omega
  have u2 : some bP ≠ some bW := by
    have := S12.ports.lt
    intro e; cases e; omega
  have u3 : some bN2 ≠ some bW := by
    obtain ⟨DN, hn, _⟩ := T12.named
    have := hn.lt
    intro e; cases e; omega
  have u4 : some bP2 ≠ some bW := by
    have := T12.ports.lt
    intro e; cases e; omega
  clear R12 S12 T12 b13 e13 hW
  have hIs : IsMap (tab pk pv pk.length) := tab_isMap pk pv _
  rw [dropsLk_eq, dropsLk_eq, dropsLk_eq] at S13
  rw [dropsLk_eq, dropsLk_eq] at T13
  have hz0 := dropsOf_sz (ks := ks) (bs := bs) (ua := ua) (name := s1) zd zu
  have hz1 := dropsOf_sz (ks := ks) (bs := bs) (ua := ua) (name := s2) zd zu
  have hz2 := dropsOf_sz (ks := ks) (bs := bs) (ua := ua) (name := s3) zd zu
  obtain ⟨r0, hr0⟩ : ∃ r, r = dropsOf ks bs ds ua un s1 := ⟨_, rfl⟩
  obtain ⟨r1, hr1⟩ : ∃ r, r = dropsOf ks bs ds ua un s2 := ⟨_, rfl⟩
  obtain ⟨r2, hr2⟩ : ∃ r, r = dropsOf ks bs ds ua un s3 := ⟨_, rfl⟩
  rw [← hr0] at hz0
  rw [← hr1] at hz1
  rw [← hr2] at hz2
  rw [← hr0, ← hr1, ← hr2] at S13
  rw [← hr1, ← hr2] at T13
  have HR0 : Hid (r0 = dropsOf ks bs ds ua un s1) := hr0
  have HR1 : Hid (r1 = dropsOf ks bs ds ua un s2) := hr1
  have HR2 : Hid (r2 = dropsOf ks bs ds ua un s3) := hr2
  clear hr0 hr1 hr2
  go_wp2_with fail
  refine (zzDropsOf_any ak1 aa1 ad1 ks bs ds ck1 ca1 cd1 ua un s1 w13 m1 L2.out L3.out y1 R13.k R13.a R13.d).mono ?_
  rintro e wd0 ⟨rfl, n0, rfl⟩
  rw [← HR0.out]
  go_wp2_with fail
  refine (recordBind_any bW (pk.length) (tab pk pv pk.length) p r0.2 r0.1 (w13.drewN n0) zp hz0 (by unfold maxLen; omega) U13).mono ?_
  rintro e w14 ⟨rfl, U14, g14⟩
  have e14 : Eff w13 w14 (some bW) := ⟨⟨g14.os, g14.tape, g14.output, g14.size, g14.block⟩, fun r hr => by cases hr; exact ownsMap_isMap U13⟩
  have R14 := R13.eff e14 (fun r hr => by cases hr; exact o3)
  have S14 := S13.eff e14 u1 u2
  have T14 := T13.eff e14 u3 u4
  clear R13 S13 T13 U13 g14 e14
  go_wp2_with fail
  refine (zzDropsOf_any ak1 aa1 ad1 ks bs ds ck1 ca1 cd1 ua un s2 w14 m1 L2.out L3.out y2 R14.k R14.a R14.d).mono ?_
  rintro e wd1 ⟨rfl, n1, rfl⟩
  rw [← HR1.out]
  go_wp2_with fail
  refine (recordBind_any bW (pk.length + 1) (bindD (tab pk pv pk.length) p r0) q r1.2 r1.1 (w14.drewN n1) zq hz1 (by unfold maxLen; omega) U14).mono ?_
  rintro e w15 ⟨rfl, U15, g15⟩
  have e15 : Eff w14 w15 (some bW) := ⟨⟨g15.os, g15.tape, g15.output, g15.size, g15.block⟩, fun r hr => by cases hr; exact ownsMap_isMap U14⟩
  have R15 := R14.eff e15 (fun r hr => by cases hr; exact o3)
  have S15 := S14.eff e15 u1 u2
  have T15 := T14.eff e15 u3 u4
  clear R14 S14 T14 U14 g15 e15
  go_wp2_with fail
  refine (zzDropsOf_any ak1 aa1 ad1 ks bs ds ck1 ca1 cd1 ua un s3 w15 m1 L2.out L3.out y3 R15.k R15.a R15.d).mono ?_
  rintro e wd2 ⟨rfl, n2, rfl⟩
  rw [← HR2.out]
  go_wp2_with fail
  refine (recordBind_any bW (pk.length + 1 + 1) (bindD (bindD (tab pk pv pk.length) p r0) q r1) p r2.2 r2.1 (w15.drewN n2) zp hz2 (by unfold maxLen; omega) U15).mono ?_
  rintro e w16 ⟨rfl, U16, g16⟩
  have e16 : Eff w15 w16 (some bW) := ⟨⟨g16.os, g16.tape, g16.output, g16.size, g16.block⟩, fun r hr => by cases hr; exact ownsMap_isMap U15⟩
  have R16 := R15.eff e16 (fun r hr => by cases hr; exact o3)
  have S16 := S15.eff e16 u1 u2
  have T16 := T15.eff e16 u3 u4
  clear R15 S15 T15 U15 g16 e16
  have hD := bindD_over hIs p q r0 r1 r2 (S16.ports.canon law) (T16.ports.canon law)
  rw [← hD] at T16
  clear hD hIs HR0 HR1 HR2
  have R17 := R16.eff (eff_alloc w16 (.cells #[.string p, .string q] 9)) (fun r hr => by cases hr)
  have S17 := S16.alloc (.cells #[.string p, .string q] 9)
  have T17 := T16.alloc (.cells #[.string p, .string q] 9)
  have U17 := U16.alloc (.cells #[.string p, .string q] 9)
  have P17 := hs_two w16 p q
  have zpq : ∀ s ∈ [p, q], s.size ≤ maxLen := by
    intro s hs
    simp at hs
    rcases hs with rfl | rfl
    · exact zp
    · exact zq
  clear R16 S16 T16 U16
  go_wp2_with fail
  refine (dropPortals_any C bP _ S17.c6).mono ?_
  rintro e w18 ⟨rfl, hw18⟩
  rw [hw18]
  clear hw18
  go_wp2_with fail
  refine (sameTable_any bP bW _ _ _ ap1 _ pk [p, q] cp1 2 _ m4 (by simp) zk4 zpq S17.ports U17 R17.p P17).mono ?_
  rintro e w19 ⟨rfl, hw19⟩
  rw [hw19]
  clear hw19
  go_wp2_with fail
  refine (dropPortals_any C2 bP2 _ T17.c6).mono ?_
  rintro e w20 ⟨rfl, hw20⟩
  rw [hw20]
  clear hw20
  go_wp2_with fail
  refine (sameTable_any bP bP2 _ _ _ ap1 _ pk [p, q] cp1 2 _ m4 (by simp) zk4 zpq S17.ports T17.ports R17.p P17).mono ?_
  rintro e w21 ⟨rfl, hw21⟩
  rw [hw21]
  clear hw21
  go_wp2
  go_ret
  exact ⟨rfl, R17.below⟩
end Go.Proofs.Qxb6604503a
