/-
  The walks of seat b6604503a, sixth part: zzDropsOf.
-/
import Derived.Test.Qxb6604503aWalkD
import Derived.Test.Qxb6604503aWalkE
namespace Go.Proofs.Qxb6604503a
open Go.RowKit Go.Maps

/-- Two results; the world but for draws. -/
def DropsPost (r : Bool × ByteArray) (w : World) (e : Ending) (w' : World) : Prop := e = .returned (.tuple #[.bool r.1, .string r.2]) ∧ ∃ n, w' = w.drewN n

theorem dropsPost_of {r : Bool × ByteArray} {w : World} {a : Bool} {b : ByteArray} (h : r = (a, b)) (n : Nat) : DropsPost r w (.returned (.tuple #[.bool a, .string b])) (w.drewN n) := by
  subst h; exact ⟨rfl, n, rfl⟩

theorem str_ne {s t : ByteArray} (h : ¬ s = t) : (s.toList == t.toList) = false := by
  rw [beq_eq_false_iff_ne, ByteArray.toList_eq, ByteArray.toList_eq]
  exact fun e => h (bytes_ext e)

theorem isEmpty_eq {name : ByteArray} (h : name.toList.isEmpty = false) (ks : List ByteArray) (bs : List Bool) (ds : List ByteArray) (ua : Bool) (un : ByteArray) :
    dropsOf ks bs ds ua un name = (look ks bs ds ks.length (cutName name)).getD (false, ByteArray.empty) := by simp [dropsOf, h]

set_option maxRecDepth 20000 in
set_option maxHeartbeats 400000 in
theorem zzDropsOf_any (ak aa ad : Option Addr) (ks : List ByteArray) (bs : List Bool) (ds : List ByteArray) (ck ca cd : Nat) (ua : Bool) (un name : ByteArray) (w : World) (hl : ks.length ≤ 1048576) (ha : bs.length = ks.length) (hd : ds.length = ks.length) (hnm : name.size ≤ maxLen)
    (h1 : HS w ak ks) (h2 : HB w aa bs) (h3 : HS w ad ds) :
    Calls Try.prog 19 #[.slice ak ks.length ck, .slice aa ks.length ca, .slice ad ks.length cd, .bool ua, .string un, .string name] w fun e w' => DropsPost (dropsOf ks bs ds ua un name) w e w' := by
  have H1 : Hid (HS w ak ks) := h1
  have H2 : Hid (HB w aa bs) := h2
  have H3 : Hid (HS w ad ds) := h3
  clear h1 h2 h3
  cases hem : name.toList.isEmpty
  · have E : Hid (dropsOf ks bs ds ua un name = (look ks bs ds ks.length (cutName name)).getD (false, ByteArray.empty)) := isEmpty_eq hem ks bs ds ua un
    go_enter Try.func19, Try.ntmps19
    go_wp2_with fail
    refine (zzKey_any name _ hnm).mono ?_
    rintro e w1 ⟨rfl, hw⟩
    obtain rfl : w = w1 := hw.symm
    obtain ⟨key, hkey⟩ : ∃ key, key = cutName name := ⟨_, rfl⟩
    rw [← hkey]
    rw [← hkey] at E
    clear hkey
    go_wp2
    go_loop [15] (fun i => ∃ k : Nat, k ≤ ks.length ∧ i = .int .i64 ((k : Int) - 1) ∧ look ks bs ds ks.length key = look ks bs ds k key) (fun i => (intOf i + 1).toNat)
    case atStart => exact ⟨ks.length, Nat.le_refl _, rfl, rfl⟩
    case round =>
      obtain ⟨k, hk, rfl, hlk⟩ := hrel
      have HL : Hid (look ks bs ds ks.length key = look ks bs ds k key) := hlk
      clear hlk
      cases k with
      | zero =>
        go_wp2
        go_ret2
        exact dropsPost_of (by rw [E.out, HL.out]; rfl) 0
      | succ k =>
        have hlt : k < ks.length := by omega
        have e1 : (((k + 1 : Nat) : Int) - 1) = (k : Int) := by omega
        rw [e1]
        clear e1
        obtain ⟨b, o, rfl, hc⟩ := H1.out k hlt
        by_cases heq : ks[k] = key
        · rw [heq] at hc
          have hk2 : k < bs.length := by omega
          have hk3 : k < ds.length := by omega
          obtain ⟨b2, o2, rfl, hc2⟩ := H2.out k hk2
          obtain ⟨b3, o3, rfl, hc3⟩ := H3.out k hk3
          have HR : Hid (dropsOf ks bs ds ua un name = (bs[k], ds[k])) := by
            show dropsOf ks bs ds ua un name = (bs[k], ds[k])
            rw [E.out, HL.out]; simp [look, List.getD, hlt, hk2, hk3, heq]
          obtain ⟨q2, hq2⟩ : ∃ q, q = bs[k] := ⟨_, rfl⟩
          obtain ⟨q3, hq3⟩ : ∃ q, q = ds[k] := ⟨_, rfl⟩
          rw [← hq2] at hc2 HR
          rw [← hq3] at hc3 HR
          clear hq2 hq3 heq HL H1 H2 H3
          go_wp2
          go_quiet (fail)
          go_wp2
          go_ret2
          exact dropsPost_of HR.out nq
        · obtain ⟨s, hs⟩ : ∃ s, s = ks[k] := ⟨_, rfl⟩
          have HL2 : Hid (look ks bs ds ks.length key = look ks bs ds k key) := by
            show look ks bs ds ks.length key = look ks bs ds k key
            rw [HL.out]; simp [look, List.getD, hlt, heq]
          rw [← hs] at hc heq
          have hne : (s.toList == key.toList) = false := str_ne heq
          clear hs HL heq
          go_wp2
          go_round
          case rel => exact ⟨k, by omega, rfl, HL2.out⟩
          case measure => simp [intOf]
  · go_enter Try.func19, Try.ntmps19
    go_wp2
    go_ret2
    exact dropsPost_of (by simp [dropsOf, hem]) 0
end Go.Proofs.Qxb6604503a
