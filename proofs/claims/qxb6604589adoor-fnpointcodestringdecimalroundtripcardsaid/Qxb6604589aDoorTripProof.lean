/-
  Seat b6604589aD: FnPointCodeStringDecimalRoundTrip: the row over the walk, and her tied card.
-/
import Derived.Test.Qxb6604589aDoorRows
import Derived.Test.Qxb6604589aDoorTie
import Derived.Test.Qxb6604589aDoorCards
import Derived.Test.Qxb6604589aDoorWalkB
import Derived.WalkKit
import Derived.ProofKit
import Derived.OpenShut
import Derived.ChangeOld
import Derived.Below
import Derived.LaidMore
import Derived.MakeChecks
import Derived.SevenTiedAt
import Derived.Stop.LaidErr
namespace Go.Proofs.Qxb6604589aDoor.fnPointCodeStringDecimalRoundTrip
open Go.ChangeShapes Go.WideShapes Go.ChangeAt Go.RowKit

theorem own : ownKnob Tryd.prog.godebug = none := by kernel_rfl

/-- What the row lists. -/
abbrev laid3 : List (String × DataW Unit) := Rows.fnPointCodeStringDecimalRoundTripRow.laid

/-- The door's own heap meets the condition. -/
theorem door_met (os : Os) (args : Array Value) : laidMetH Tryd.prog laid3 ((World.doorLaid Tryd.prog 24 os).forCall (fun _ _ => 0) ⟨#[], args, []⟩).memory := by
  rw [MakeChecks.laidMetH_plain _ _ _ (by kernel_rfl)]
  exact laidMet_of_run' 8 (by kernel_rfl) (by kernel_rfl)

theorem pow10_data : (Rows.laid_internal_strconv_uint64pow10 : DataW Unit) = Lib.tabData .u64 Lib.pow10Tab := by kernel_rfl

/-- What the condition gives the walk: the table of powers of ten. -/
theorem tab_of_laid {W : World} (h : laidMetH Tryd.prog laid3 W) : Lib.TabIs Tryd.prog W Tryd.powName .u64 Lib.pow10Tab := by
  rw [MakeChecks.laidMetH_plain _ _ _ (by kernel_rfl)] at h
  have h1 : laidMet Tryd.prog (_ :: _ :: [(Tryd.powName, Rows.laid_internal_strconv_uint64pow10)]) W := h
  have h2 := h1.tail.tail
  rw [pow10_data] at h2
  exact Lib.tabIs_of_head (g := 0) (t := 41) (e := 31) (n := 20) (by kernel_rfl) (by kernel_rfl) (by kernel_rfl) Tryd.underlying31 (by kernel_rfl) (by kernel_rfl) h2

set_option maxRecDepth 100000 in
theorem lifted (os : Os) (started : os.Started) (H : Type) (enc : TypeId × Value → H) :
    ReturnsInHanded {} Tryd.checked os 3 .any (fun w args => (Rows.fnPointCodeStringDecimalRoundTripSpec.pre enc Tryd.prog Tryd.f3 [] false w args ∧ laidMetH Tryd.prog laid3 w) ∧ sizedMet enc Tryd.prog Tryd.f3 (OpenSpec.ofChange Rows.fnPointCodeStringDecimalRoundTripSpec) false w args)
      (Rows.fnPointCodeStringDecimalRoundTripSpec.post enc Tryd.prog Tryd.f3 false true false false) := by
  refine returnsInHanded_of_change_and (C := Tryd.checked) (X := fun w _ => laidMetH Tryd.prog laid3 w) (fun _ _ _ hh h => h.of_heap hh) own started (by kernel_rfl) Tryd.func3
    (ChangeSpec.witness_shaped (enc := enc) (C := Tryd.checked) (os := os) (X := fun w _ => laidMetH Tryd.prog laid3 w) false (World.doorLaid Tryd.prog 24 os) #[.int .u16 0] 8 rfl (World.shaped_of_RefB (by kernel_rfl) (by kernel_rfl)) (by kernel_rfl) (by kernel_rfl) (by kernel_rfl) (door_met os _)) ?_
  intro W base args ds gs before hval0 hW _ _ hL _
  have hval : ∀ (j : Nat) t v, Tryd.f3.params[j]? = some t → args[j]? = some v → Value.okWide Tryd.prog W .any base t v := hval0
  have hW' := hW
  obtain ⟨p, q, hA0, hV, rfl, hfz, hnd⟩ := hW
  have hA : DataW.TrodAll enc Tryd.prog W 0 (fun _ => true) true Tryd.f3.params.toList args.toList ds p := hA0
  rw [Tryd.params3] at hA hval
  obtain ⟨v0, d0, rfl, rfl, h0⟩ := trodAll_one hA
  obtain ⟨rfl, rfl⟩ := trodVars_none hV
  obtain ⟨z, rfl, rfl, rfl, hz⟩ := open_int Tryd.underlying22 (hval 0 22 v0 rfl rfl) h0
  have htab := tab_of_laid hL
  clear hA0 hval0
  have hb : 0 ≤ z ∧ z < 65536 := by
    have h1 := hz
    simp [Lit.wf] at h1
    have e1 : IntKind.u16.min = 0 := by decide
    have e2 : IntKind.u16.max = 65535 := by decide
    omega
  obtain ⟨u, rfl⟩ : ∃ u : Nat, z = u := ⟨z.toNat, by omega⟩
  refine (law_any u (by omega) W htab).mono fun e W' ⟨he, bel⟩ => ?_
  subst he
  exact ⟨_, rfl, _, _, _, [], [], [], hW', trodAll_mk1 (shut_bool Tryd.underlying4 _), trodAll_mk1 (shut_int Tryd.underlying22 hz), rfl, bel.frame _, fun h => by cases h⟩

theorem row_holds : Rows.FnPointCodeStringDecimalRoundTripSaid :=
  OpenClaim.holds_of_wide 3 Tryd.f3 rfl rfl rfl rfl rfl rfl rfl ⟨rfl, rfl, rfl, rfl, rfl⟩ rfl rfl rfl rfl rfl (by kernel_rfl) Tryd.func3 (by kernel_rfl)
    (of_decide_eq_true (by kernel_rfl)) (by unfold Func.isWrapper; first | (rw [if_pos (by decide +kernel)]; kernel_rfl) | (rw [if_neg (by decide +kernel)]; exact ⟨rfl, rfl⟩))
    (fun os started H enc _ => lifted os started H enc)

/-- The statement: the tied card. -/
theorem proved : Rows.FnPointCodeStringDecimalRoundTripCardSaid :=
  Claim7.holds_tied_plain_at .later [] [.data, .data, .data] true (true, "cad1c0f5f0c90ecf8d0694e5990d9e69ecb2cac69afb4e5e2a314060614b0a45") false
    row_holds (fun _ h => by cases h) (by kernel_rfl) (fun _ h => by cases h) fnPointCodeStringDecimalRoundTrip_row_tie rfl ⟨rfl, rfl⟩ (by kernel_rfl) rfl
    (fun f fn hf hfn => by
      obtain rfl : f = 3 := Option.some.inj ((show Tryd.prog.funcNamed Rows.fnPointCodeStringDecimalRoundTripRow.func = some 3 by kernel_rfl).symm.trans hf) |>.symm
      obtain rfl : fn = Tryd.f3 := (Option.some.inj (Tryd.func3.symm.trans hfn)).symm
      exact ⟨by kernel_rfl, fun j t ht => by
        rw [Tryd.params3] at ht
        have h3 : t = 22 := by
          rcases j with _ | j
          · simpa using ht.symm
          · simp at ht
        subst h3
        exact (show Tryd.prog.wantsStandIn 22 = false by kernel_rfl)⟩)
    (by kernel_rfl)
#print axioms proved
end Go.Proofs.Qxb6604589aDoor.fnPointCodeStringDecimalRoundTrip
