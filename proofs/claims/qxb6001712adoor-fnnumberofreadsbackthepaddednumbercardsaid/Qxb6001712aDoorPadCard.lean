/-
  THE ROW OF FnNumberOfReadsBackThePaddedNumber, AND ITS TIED CARD.
-/
import Derived.Test.Qxb6001712aDoorLaw
import Derived.Test.Qxb6001712aDoorTie
import Derived.Test.Qxb6001712aDoorCards
import Derived.ProofKit
import Derived.ShutString
import Derived.OpenShut
import Derived.LaidMore
import Derived.Lay
import Derived.SevenTiedAt
import Derived.Stop.Joined
import Derived.Stop.LaidErr
import Derived.Lib.LaidTab
namespace Go.Proofs.Qxb6001712aDoor
open Go.ChangeShapes Go.WideShapes Go.ChangeAt Go.RowKit
open Go.ChangeMaps (open_string shut_string)

theorem own : ownKnob Tryd.prog.godebug = none := by kernel_rfl

/-- The door's own heap meets the condition. -/
theorem door_met (os : Os) (args : Array Value) : laidMetH Tryd.prog Rows.fnNumberOfReadsBackThePaddedNumberRow.laid ((World.doorLaid Tryd.prog 62 os).forCall (fun _ _ => 0) ⟨#[], args, []⟩).memory :=
  laidMetH_of_parts3 (fuel := 8) (laidMet_of_run' 8 (by kernel_rfl) (by kernel_rfl)) (by kernel_rfl) (by kernel_rfl)

set_option maxRecDepth 100000 in
theorem lifted (os : Os) (started : os.Started) (H : Type) (enc : TypeId × Value → H) :
    ReturnsInHanded {} Tryd.checked os 3 .any (fun w args => (Rows.fnNumberOfReadsBackThePaddedNumberSpec.pre enc Tryd.prog Tryd.f3 Rows.fnNumberOfReadsBackThePaddedNumberRow.domain false w args ∧ laidMetH Tryd.prog Rows.fnNumberOfReadsBackThePaddedNumberRow.laid w) ∧ sizedMet enc Tryd.prog Tryd.f3 (OpenSpec.ofChange Rows.fnNumberOfReadsBackThePaddedNumberSpec) false w args)
      (Rows.fnNumberOfReadsBackThePaddedNumberSpec.post enc Tryd.prog Tryd.f3 false true false false) := by
  refine returnsInHanded_of_change_and (C := Tryd.checked) (X := fun w _ => laidMetH Tryd.prog Rows.fnNumberOfReadsBackThePaddedNumberRow.laid w) (fun _ _ _ hh h => h.of_heap hh) own started (by kernel_rfl) Tryd.func3
    (ChangeSpec.witness_shaped (enc := enc) (C := Tryd.checked) (os := os) (X := fun w _ => laidMetH Tryd.prog Rows.fnNumberOfReadsBackThePaddedNumberRow.laid w) false (World.doorLaid Tryd.prog 62 os) #[.string ByteArray.empty, .int .u64 0] 8 rfl
      (World.shaped_of_RefB (by kernel_rfl) (by kernel_rfl)) (by kernel_rfl) (by kernel_rfl) (by kernel_rfl) (door_met os _)) ?_
  intro W base args ds gs before hval0 hW _ _ _ _
  have hval : ∀ (j : Nat) t v, Tryd.f3.params[j]? = some t → args[j]? = some v → Value.okWide Tryd.prog W .any base t v := hval0
  have hW' := hW
  obtain ⟨p, q, hA0, hV, rfl, _, _⟩ := hW
  have hA : DataW.TrodAll enc Tryd.prog W 0 (fun _ => true) true Tryd.f3.params.toList args.toList ds p := hA0
  rw [Tryd.params3] at hA hval
  obtain ⟨v0, v1, d0, d1, p0, p1, rfl, rfl, rfl, h0, h1⟩ := trodAll_two hA
  obtain ⟨rfl, rfl⟩ := trodVars_none hV
  obtain ⟨s, rfl, rfl, rfl, ws⟩ := open_string Tryd.underlying9 (hval 0 9 v0 rfl rfl) h0
  obtain ⟨x, rfl, rfl, rfl, wx⟩ := open_int Tryd.underlying22 (hval 1 22 v1 rfl rfl) h1
  have hx := bounds_u64 wx
  obtain ⟨n, rfl⟩ : ∃ n : Nat, x = n := ⟨x.toNat, by omega⟩
  simp only [List.append_nil] at hW'
  refine (law_walk s n (by omega) (by unfold maxLen at ws; omega) W).mono fun e W' ⟨he, hnx⟩ => ?_
  subst he
  refine ⟨_, rfl, _, _, _, [], [], [], hW', ?_, ?_, rfl, hnx.frame _, fun h => by cases h⟩
  · exact trodAll_mk1 (shut_bool Tryd.underlying4 _)
  · exact trodAll_mk2 (shut_string Tryd.underlying9 ws) (shut_int Tryd.underlying22 wx)

theorem row_holds : Rows.FnNumberOfReadsBackThePaddedNumberSaid :=
  OpenClaim.holds_of_wide 3 Tryd.f3 rfl rfl rfl rfl rfl rfl rfl ⟨rfl, rfl, rfl, rfl, rfl⟩ rfl rfl rfl rfl rfl (by kernel_rfl) Tryd.func3 (by kernel_rfl)
    (of_decide_eq_true (by kernel_rfl)) (by unfold Func.isWrapper; rw [if_neg (of_decide_eq_false (by kernel_rfl))]; exact ⟨rfl, rfl⟩)
    (fun os started H enc _ => lifted os started H enc)

/-- THE CARD. -/
theorem card_holds : Rows.FnNumberOfReadsBackThePaddedNumberCardSaid :=
  Claim7.holds_tied_plain_at .later [] [.data, .data, .data, .sentinel, .sentinel] true Rows.fnNumberOfReadsBackThePaddedNumberCard.stood.harness true
    row_holds (fun _ h => by cases h) (by kernel_rfl) (fun _ h => by cases h) fnNumberOfReadsBackThePaddedNumber_row_tie rfl ⟨rfl, rfl⟩ (by kernel_rfl) rfl
    (fun f fn hf hfn => by
      obtain rfl : f = 3 := Option.some.inj ((show Tryd.prog.funcNamed Rows.fnNumberOfReadsBackThePaddedNumberRow.func = some 3 by kernel_rfl).symm.trans hf) |>.symm
      obtain rfl : fn = Tryd.f3 := (Option.some.inj (Tryd.func3.symm.trans hfn)).symm
      exact ⟨by kernel_rfl, fun j t ht => by
        rw [Tryd.params3] at ht
        have hm : t ∈ [9, 22] := by simpa using Array.mem_of_getElem? ht
        have hall : ([9, 22].all fun u => !Tryd.prog.wantsStandIn u) = true := by kernel_rfl
        exact (show Tryd.prog.wantsStandIn t = false by simpa using List.all_eq_true.1 hall t hm)⟩)
    (by kernel_rfl)
end Go.Proofs.Qxb6001712aDoor
