/-
  The walks of seat b6604503a, second part: the bound on total length of FnBoundRecords.
-/
import Derived.Test.Qxb6604503aWalkA
namespace Go.Proofs.Qxb6604503a
open Go.RowKit

set_option maxRecDepth 20000 in
set_option maxHeartbeats 1600000 in
theorem zzBytes11 (aks ads apk apv a2 : Option Addr) (ks ds pk pv : List ByteArray) (n2 cks cds cpk cpv c2 : Nat) (ua : Bool) (un po nm : ByteArray) (w : World) (lks : ks.length ≤ maxLen) (hks : HS w aks ks) (lds : ds.length ≤ maxLen) (hds : HS w ads ds) (lpk : pk.length ≤ maxLen) (hpk : HS w apk pk) (lpv : pv.length ≤ maxLen) (hpv : HS w apv pv) (l2 : n2 ≤ maxLen) (zun : un.size ≤ maxLen) (zpo : po.size ≤ maxLen) (znm : nm.size ≤ maxLen) :
    Calls Try.prog 11 #[.slice aks ks.length cks, .slice a2 n2 c2, .slice ads ds.length cds, .bool ua, .string un, .slice apk pk.length cpk, .slice apv pv.length cpv, .string po, .string nm] w fun e w' => BoolPost (ks.length ≤ 1048576 ∧ ds.length ≤ 1048576 ∧ pk.length ≤ 1048576 ∧ pv.length ≤ 1048576 ∧ n2 ≤ 1048576 ∧ un.size ≤ 1048576 ∧ po.size ≤ 1048576 ∧ nm.size ≤ 1048576) w e w' := by
  unfold maxLen at lks lds lpk lpv l2 zun zpo znm
  have Hks : Hid (HS w aks ks) := hks
  have Hds : Hid (HS w ads ds) := hds
  have Hpk : Hid (HS w apk pk) := hpk
  have Hpv : Hid (HS w apv pv) := hpv
  clear hks hds hpk hpv
  go_enter Try.func11, Try.ntmps11
  go_wp2
  all_goals try (go_ret; exact ⟨false, rfl, by simp, rfl⟩)
  go_loop [19, 20] (fun v i => ∃ (k : Nat) (z : Int), k ≤ ks.length ∧ i = .int .i64 k ∧ v = .int .i64 z) (fun _ i => ks.length - (intOf i).toNat)
  case atStart => exact ⟨0, _, Nat.zero_le _, rfl, rfl⟩
  case round =>
    obtain ⟨k0, z0, hk0, rfl, rfl⟩ := hrel
    by_cases hlt0 : k0 < ks.length
    · obtain ⟨b, off, rfl, hc⟩ := Hks.out k0 hlt0
      obtain ⟨s, hs⟩ : ∃ s, s = ks[k0] := ⟨_, rfl⟩
      rw [← hs] at hc
      clear hs Hks Hds Hpk Hpv
      go_wp2
      all_goals try (go_ret; exact ⟨false, rfl, by simp, rfl⟩)
      go_round
      case rel => exact ⟨k0 + 1, _, by omega, by go_num, rfl⟩
      case measure => simp [intOf]; omega
    · clear hk0
      go_wp2
      all_goals try (go_ret; exact ⟨false, rfl, by simp, rfl⟩)
      go_loop [19, 21] (fun v i => ∃ (k : Nat) (z : Int), k ≤ ds.length ∧ i = .int .i64 k ∧ v = .int .i64 z) (fun _ i => ds.length - (intOf i).toNat)
      case atStart => exact ⟨0, _, Nat.zero_le _, rfl, rfl⟩
      case round =>
        obtain ⟨k1, z1, hk1, rfl, rfl⟩ := hrel
        by_cases hlt1 : k1 < ds.length
        · obtain ⟨b, off, rfl, hc⟩ := Hds.out k1 hlt1
          obtain ⟨s, hs⟩ : ∃ s, s = ds[k1] := ⟨_, rfl⟩
          rw [← hs] at hc
          clear hs Hks Hds Hpk Hpv
          go_wp2
          all_goals try (go_ret; exact ⟨false, rfl, by simp, rfl⟩)
          go_round
          case rel => exact ⟨k1 + 1, _, by omega, by go_num, rfl⟩
          case measure => simp [intOf]; omega
        · clear hk1
          go_wp2
          all_goals try (go_ret; exact ⟨false, rfl, by simp, rfl⟩)
          go_loop [19, 22] (fun v i => ∃ (k : Nat) (z : Int), k ≤ pk.length ∧ i = .int .i64 k ∧ v = .int .i64 z) (fun _ i => pk.length - (intOf i).toNat)
          case atStart => exact ⟨0, _, Nat.zero_le _, rfl, rfl⟩
          case round =>
            obtain ⟨k2, z2, hk2, rfl, rfl⟩ := hrel
            by_cases hlt2 : k2 < pk.length
            · obtain ⟨b, off, rfl, hc⟩ := Hpk.out k2 hlt2
              obtain ⟨s, hs⟩ : ∃ s, s = pk[k2] := ⟨_, rfl⟩
              rw [← hs] at hc
              clear hs Hks Hds Hpk Hpv
              go_wp2
              all_goals try (go_ret; exact ⟨false, rfl, by simp, rfl⟩)
              go_round
              case rel => exact ⟨k2 + 1, _, by omega, by go_num, rfl⟩
              case measure => simp [intOf]; omega
            · clear hk2
              go_wp2
              all_goals try (go_ret; exact ⟨false, rfl, by simp, rfl⟩)
              go_loop [19, 23] (fun v i => ∃ (k : Nat) (z : Int), k ≤ pv.length ∧ i = .int .i64 k ∧ v = .int .i64 z) (fun _ i => pv.length - (intOf i).toNat)
              case atStart => exact ⟨0, _, Nat.zero_le _, rfl, rfl⟩
              case round =>
                obtain ⟨k3, z3, hk3, rfl, rfl⟩ := hrel
                by_cases hlt3 : k3 < pv.length
                · obtain ⟨b, off, rfl, hc⟩ := Hpv.out k3 hlt3
                  obtain ⟨s, hs⟩ : ∃ s, s = pv[k3] := ⟨_, rfl⟩
                  rw [← hs] at hc
                  clear hs Hks Hds Hpk Hpv
                  go_wp2
                  all_goals try (go_ret; exact ⟨false, rfl, by simp, rfl⟩)
                  go_round
                  case rel => exact ⟨k3 + 1, _, by omega, by go_num, rfl⟩
                  case measure => simp [intOf]; omega
                · clear hk3
                  go_wp2
                  all_goals try (go_ret; exact ⟨false, rfl, by simp, rfl⟩)
                  go_ret
                  exact ⟨true, rfl, fun _ => by refine ⟨?_, ?_, ?_, ?_, ?_, ?_, ?_, ?_⟩ <;> omega, rfl⟩
end Go.Proofs.Qxb6604503a
