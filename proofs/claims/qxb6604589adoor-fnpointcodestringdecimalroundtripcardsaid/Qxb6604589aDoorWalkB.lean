/-
  The walks of seat b6604589aD, second part: the law itself.
-/
import Derived.Test.Qxb6604589aDoorWalkA
import Derived.Lib.AppendIntMem
import Derived.WalkSpells
import Derived.WalkLawsBesides
namespace Go.Proofs.Qxb6604589aDoor
open Go.RowKit Go.Sort Go.Lib

/-- The digit at place i from the left, of a numeral of n places. -/
def digit (u n i : Nat) : Int := ((u / 10 ^ (n - 1 - i) % 10 : Nat) : Int)
/-- What the first k of n digits read as. -/
def front (u n k : Nat) : Int := ((u / 10 ^ (n - k) : Nat) : Int)

theorem digit_bounds (u n i : Nat) : 0 ≤ digit u n i ∧ digit u n i ≤ 9 := by unfold digit; omega

theorem front_le (u n k : Nat) : 0 ≤ front u n k ∧ front u n k ≤ u := by
  exact ⟨Int.natCast_nonneg _, Int.ofNat_le.2 (Nat.div_le_self u (10 ^ (n - k)))⟩

theorem front_zero (u : Nat) : front u (nDigits u) 0 = 0 := by
  unfold front
  rw [Nat.sub_zero, Nat.div_eq_of_lt (lt_pow_nDigits u)]
  rfl

theorem front_all (u n : Nat) : front u n n = u := by unfold front; simp

theorem front_step (u n k : Nat) (h : k < n) : front u n k * 10 + digit u n k = front u n (k + 1) := by
  unfold front digit
  rw [show n - k = n - 1 - k + 1 by omega, Nat.pow_succ, ← Nat.div_div_eq_div_mul, show n - (k + 1) = n - 1 - k by omega]
  omega

theorem pow_pred_le (u : Nat) (h : 1 ≤ u) : 10 ^ (nDigits u - 1) ≤ u := by
  induction u using Nat.strongRecOn with
  | _ u ih =>
    by_cases h10 : u < 10
    · rw [nDigits_small h10]; simpa using h
    · rw [nDigits_big h10, Nat.add_sub_cancel]
      have h1 := ih (u / 10) (by omega) (by omega)
      have h2 := nDigits_pos (u / 10)
      rw [show nDigits (u / 10) = nDigits (u / 10) - 1 + 1 by omega, Nat.pow_succ]
      omega

/-- Where there is more than one digit the first is no zero. -/
theorem lead (u : Nat) (h : 1 < nDigits u) : digit u (nDigits u) 0 ≠ 0 := by
  have h1 : ¬ u < 10 := fun h' => by rw [nDigits_small h'] at h; omega
  have h2 : 1 ≤ u / 10 ^ (nDigits u - 1) := (Nat.le_div_iff_mul_le (Nat.pow_pos (by decide))).2 (by rw [Nat.one_mul]; exact pow_pred_le u (by omega))
  have h3 : u / 10 ^ (nDigits u - 1) < 10 := by
    refine Nat.div_lt_of_lt_mul ?_
    have h4 := lt_pow_nDigits u
    rw [show nDigits u = nDigits u - 1 + 1 by omega, Nat.pow_succ] at h4
    exact h4
  unfold digit
  rw [Nat.sub_zero, Nat.mod_eq_of_lt h3]
  omega

/-- What the walk is told of the numeral. -/
def IsNum (u : Nat) (s : ByteArray) : Prop := ∀ i, i < nDigits u → ∀ W, (Instr.index 9 (.string s) (.int .i64 (i : Int))).run Tryd.prog W = .ok (.int .u8 (48 + digit u (nDigits u) i)) W

theorem isNum (u : Nat) : IsNum u ⟨(decDigits u).toArray⟩ := fun i hi W => by
  have hl : i < (decDigits u).length := by rw [decDigits_length]; exact hi
  have hs : (⟨(decDigits u).toArray⟩ : ByteArray).size = (decDigits u).length := rfl
  rw [run_index_string W 9 _ .i64 i Tryd.underlying9, dif_pos (by rw [hs]; omega)]
  have e : (⟨(decDigits u).toArray⟩ : ByteArray)[(i : Int).toNat]'(by rw [hs]; omega) = (decDigits u)[i] := rfl
  rw [e]
  simp only [decDigits_eq u, List.getElem_map, List.getElem_range, dg, digit]
  have hm : 48 + u / 10 ^ (nDigits u - 1 - i) % 10 < 256 := by omega
  rw [UInt8.toNat_ofNat_of_lt' (by simpa using hm)]
  simp

/-- What the law leaves: true; nothing old has turned. -/
def LawPost (w : World) (e : Ending) (w' : World) : Prop := e = .returned (.bool true) ∧ Below w.heap.size w w'

set_option maxRecDepth 20000 in
set_option maxHeartbeats 1600000 in
theorem law_any (u : Nat) (hu : u < 65536) (w : World) (htab : TabIs Tryd.prog w Tryd.powName .u64 pow10Tab) :
    Calls Tryd.prog 3 #[.int .u16 u] w fun e w' => LawPost w e w' := by
  obtain ⟨s, hs⟩ : ∃ s : ByteArray, s = ⟨(decDigits u).toArray⟩ := ⟨_, rfl⟩
  obtain ⟨n, hn⟩ : ∃ n : Nat, n = nDigits u := ⟨_, rfl⟩
  have hsz : s.size = n := by rw [hs, hn]; exact decDigits_length u
  have H : Hid (IsNum u s) := by rw [hs]; exact isNum u
  have hn5 : n ≤ 5 := by rw [hn, nDigits16 u hu]; repeat' split
                         all_goals omega
  have hn1 : 1 ≤ n := by rw [hn]; exact nDigits_pos u
  have hlead : 1 < n → digit u n 0 ≠ 0 := fun h => by rw [hn] at h ⊢; exact lead u h
  have h5 := pointCode u hu w htab
  unfold NumPost at h5
  rw [← hs] at h5
  have h6 := fun W => decimalDigits u hu W
  rw [← hn] at h6
  have HN := hid hn
  have HL := hid hlead
  clear hs hn htab hlead
  obtain ⟨z, hz⟩ : ∃ z : Int, z = u := ⟨_, rfl⟩
  have hz0 : 0 ≤ z := by omega
  have hz1 : z ≤ 65535 := by omega
  rw [← hz] at h5 h6 ⊢
  have HZ := hid hz
  clear hz hu
  have hw32 : IntKind.u32.wrap z = z := by rw [IntKind.wrap_u32]; omega
  have hi0 : ∃ c : Int, c = 48 + digit u n 0 ∧ ∀ W, (Instr.index 9 (.string s) (.int .i64 0)).run Tryd.prog W = .ok (.int .u8 c) W := ⟨_, rfl, fun W => by
    rw [HN.out]
    exact H.out 0 (by rw [← HN.out]; omega) W⟩
  obtain ⟨c0, hc0, hix0⟩ := hi0
  have hne : n = 1 ∨ (1 < n ∧ c0 ≠ 48) := by
    by_cases h1 : n = 1
    · exact Or.inl h1
    · have := HL.out (by omega)
      exact Or.inr ⟨by omega, by omega⟩
  clear hc0 HL
  rcases hne with h1 | ⟨h1, hc⟩
  all_goals
    go_enter Tryd.func3, Tryd.ntmps3
    go_wp2_with (first
      | (go_at_call 5; refine h5.mono ?_; rintro e w' ⟨rfl, k, os, rfl⟩)
      | (go_at_call 6; refine (h6 _).mono ?_; rintro e w' ⟨rfl, rfl⟩))
    have hB := below_grow w.heap.size w (Nat.le_refl _) k os
    generalize grow (w.drewN k) os = W at hB ⊢
    go_loop [5, 6] (fun v i => ∃ (k : Nat) (a : Int), k ≤ n ∧ i = .int .i64 k ∧ v = .int .u32 a ∧ 0 ≤ a ∧ a ≤ z ∧ Hid (a = front u n k)) (fun _ i => n - (RowKit.intOf i).toNat)
    case atStart => exact ⟨0, 0, Nat.zero_le _, rfl, rfl, by omega, by omega, by rw [HN.out]; exact (front_zero u).symm⟩
    case round =>
      obtain ⟨k, a, hk, rfl, rfl, ha0, ha1, HA⟩ := hrel
      by_cases hlt : k < n
      · obtain ⟨d, hd⟩ : ∃ d, d = digit u n k := ⟨_, rfl⟩
        have hdb : 0 ≤ d ∧ d ≤ 9 := by rw [hd]; exact digit_bounds u n k
        have hix : ∀ W, (Instr.index 9 (.string s) (.int .i64 (k : Int))).run Tryd.prog W = .ok (.int .u8 (48 + d)) W := fun W => by
          rw [hd, HN.out]
          exact H.out k (by rw [← HN.out]; omega) W
        have hst : a * 10 + d = front u n (k + 1) := by rw [hd, HA.out]; exact front_step u n k hlt
        have hle := front_le u n (k + 1)
        have HST := hid hst
        have HLE := hid hle
        obtain ⟨hd0, hd9⟩ := hdb
        have ht1 : ¬ 48 + d < 48 := by omega
        have ht2 : ¬ 57 < 48 + d := by omega
        clear hd hst hle
        go_wp2
        have hst := HST.out
        have hle := HLE.out
        have hz := HZ.out
        refine ⟨⟨k + 1, _, by omega, by go_num, rfl, by omega, by omega, (show _ = _ by omega)⟩, ?_⟩
        simp [RowKit.intOf]
        omega
      · obtain rfl : k = n := by omega
        obtain rfl : a = z := by rw [HA.out, front_all, HZ.out]
        go_wp2
        go_ret
        exact ⟨rfl, hB⟩
#print axioms law_any
end Go.Proofs.Qxb6604589aDoor
