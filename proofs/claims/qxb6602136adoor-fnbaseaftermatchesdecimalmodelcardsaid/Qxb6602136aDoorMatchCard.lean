/-
  THE ROW OF FnBaseAfterMatchesDecimalModel, AND ITS TIED CARD.
-/
import Derived.Test.Qxb6602136aDoorMatch
import Derived.Test.Qxb6602136aDoorTie
import Derived.Test.Qxb6602136aDoorCards
import Derived.ProofKit
import Derived.ShutString
import Derived.OpenShut
import Derived.LaidMore
import Derived.Lay
import Derived.SevenTiedAt
import Derived.Stop.Joined
import Derived.Stop.LaidErr
import Derived.Lib.LaidTab
namespace Go.Proofs.Qxb6602136aDoor
open Go.ChangeShapes Go.WideShapes Go.ChangeAt Go.RowKit
open Go.ChangeMaps (open_string shut_string)

theorem own : ownKnob Tryd.prog.godebug = none := by kernel_rfl

/-- The errors' type's name, off the given datum. -/
def errName : String := match (Rows.laid_strconv_ErrSyntax : DataW Unit) with | .iface nm _ => nm | _ => ""

theorem errRow (u : TypeId) (h : Tryd.prog.typeName? 3 u = some errName) : u = 101 :=
  typeName_ptr_named (nm := "errors.errorString") (by kernel_rfl) (by kernel_rfl) (by decide) u h

/-- What the row's condition gives the walks: the table of powers and the two errors. -/
theorem ready_of_laid {W : World} (h : laidMetH Tryd.prog Rows.fnBaseAfterMatchesDecimalModelRow.laid W) : Ready W := by
  rw [MakeChecks.laidMetH_plain _ _ _ (by kernel_rfl)] at h
  have h2 := laidMet.tail (laidMet.tail h)
  have h3 := laidMet.tail h2
  have h4 := laidMet.tail h3
  have ht : Lib.TabIs Tryd.prog W tabName .u64 Lib.pow10Tab := Lib.tabIs_of_head (g := 2) (t := 90) (e := 36) (n := 20) (rest := _) (by kernel_rfl) (by kernel_rfl) Tryd.underlying90 Tryd.underlying36 (by kernel_rfl) (by kernel_rfl) h2
  obtain ⟨a0, s0, hv0, -, -, -⟩ := laid_sentinel (g := 1) (tp := 101) (te := 103) (ts := 9) h3 (by kernel_rfl) (by kernel_rfl) Tryd.underlying42 errRow Tryd.underlying101 Tryd.underlying103 rfl rfl Tryd.underlying9 (by kernel_rfl) (by kernel_rfl)
  obtain ⟨a1, s1, hv1, -, -, -⟩ := laid_sentinel (g := 0) (tp := 101) (te := 103) (ts := 9) h4 (by kernel_rfl) (by kernel_rfl) Tryd.underlying42 errRow Tryd.underlying101 Tryd.underlying103 rfl rfl Tryd.underlying9 (by kernel_rfl) (by kernel_rfl)
  exact ⟨ht, ⟨_, _, hv1⟩, ⟨_, _, hv0⟩⟩

/-- The door's own heap meets the condition. -/
theorem door_met (os : Os) (args : Array Value) : laidMetH Tryd.prog Rows.fnBaseAfterMatchesDecimalModelRow.laid ((World.doorLaid Tryd.prog 62 os).forCall (fun _ _ => 0) ⟨#[], args, []⟩).memory :=
  laidMetH_of_parts3 (fuel := 8) (laidMet_of_run' 8 (by kernel_rfl) (by kernel_rfl)) (by kernel_rfl) (by kernel_rfl)

set_option maxRecDepth 100000 in
theorem lifted (os : Os) (started : os.Started) (H : Type) (enc : TypeId × Value → H) :
    ReturnsInHanded {} Tryd.checked os 3 .any (fun w args => (Rows.fnBaseAfterMatchesDecimalModelSpec.pre enc Tryd.prog Tryd.f3 Rows.fnBaseAfterMatchesDecimalModelRow.domain false w args ∧ laidMetH Tryd.prog Rows.fnBaseAfterMatchesDecimalModelRow.laid w) ∧ sizedMet enc Tryd.prog Tryd.f3 (OpenSpec.ofChange Rows.fnBaseAfterMatchesDecimalModelSpec) false w args)
      (Rows.fnBaseAfterMatchesDecimalModelSpec.post enc Tryd.prog Tryd.f3 false true false false) := by
  refine returnsInHanded_of_change_and (C := Tryd.checked) (X := fun w _ => laidMetH Tryd.prog Rows.fnBaseAfterMatchesDecimalModelRow.laid w) (fun _ _ _ hh h => h.of_heap hh) own started (by kernel_rfl) Tryd.func3
    (ChangeSpec.witness_shaped (enc := enc) (C := Tryd.checked) (os := os) (X := fun w _ => laidMetH Tryd.prog Rows.fnBaseAfterMatchesDecimalModelRow.laid w) false (World.doorLaid Tryd.prog 62 os) #[.string ByteArray.empty, .string ByteArray.empty] 8 rfl
      (World.shaped_of_RefB (by kernel_rfl) (by kernel_rfl)) (by kernel_rfl) (by kernel_rfl) (by kernel_rfl) (door_met os _)) ?_
  intro W base args ds gs before hval0 hW _ _ hL _
  have hval : ∀ (j : Nat) t v, Tryd.f3.params[j]? = some t → args[j]? = some v → Value.okWide Tryd.prog W .any base t v := hval0
  have hW' := hW
  obtain ⟨p, q, hA0, hV, rfl, _, _⟩ := hW
  have hA : DataW.TrodAll enc Tryd.prog W 0 (fun _ => true) true Tryd.f3.params.toList args.toList ds p := hA0
  rw [Tryd.params3] at hA hval
  obtain ⟨v0, v1, d0, d1, p0, p1, rfl, rfl, rfl, h0, h1⟩ := trodAll_two hA
  obtain ⟨rfl, rfl⟩ := trodVars_none hV
  obtain ⟨s, rfl, rfl, rfl, ws⟩ := open_string Tryd.underlying9 (hval 0 9 v0 rfl rfl) h0
  obtain ⟨p, rfl, rfl, rfl, wp⟩ := open_string Tryd.underlying9 (hval 1 9 v1 rfl rfl) h1
  simp only [List.append_nil] at hW'
  refine (match_walk s p (by unfold maxLen at ws; omega) (by unfold maxLen at wp; omega) W (ready_of_laid hL)).mono fun e W' ⟨he, hnx⟩ => ?_
  subst he
  refine ⟨_, rfl, _, _, _, [], [], [], hW', ?_, ?_, rfl, hnx.frame _, fun h => by cases h⟩
  · exact trodAll_mk1 (shut_bool Tryd.underlying4 _)
  · exact trodAll_mk2 (shut_string Tryd.underlying9 ws) (shut_string Tryd.underlying9 wp)

theorem row_holds : Rows.FnBaseAfterMatchesDecimalModelSaid :=
  OpenClaim.holds_of_wide 3 Tryd.f3 rfl rfl rfl rfl rfl rfl rfl ⟨rfl, rfl, rfl, rfl, rfl⟩ rfl rfl rfl rfl rfl (by kernel_rfl) Tryd.func3 (by kernel_rfl)
    (of_decide_eq_true (by kernel_rfl)) (by unfold Func.isWrapper; rw [if_neg (of_decide_eq_false (by kernel_rfl))]; exact ⟨rfl, rfl⟩)
    (fun os started H enc _ => lifted os started H enc)

/-- THE CARD. -/
theorem card_holds : Rows.FnBaseAfterMatchesDecimalModelCardSaid :=
  Claim7.holds_tied_plain_at .later [] [.data, .data, .data, .sentinel, .sentinel] true Rows.fnBaseAfterMatchesDecimalModelCard.stood.harness true
    row_holds (fun _ h => by cases h) (by kernel_rfl) (fun _ h => by cases h) fnBaseAfterMatchesDecimalModel_row_tie rfl ⟨rfl, rfl⟩ (by kernel_rfl) rfl
    (fun f fn hf hfn => by
      obtain rfl : f = 3 := Option.some.inj ((show Tryd.prog.funcNamed Rows.fnBaseAfterMatchesDecimalModelRow.func = some 3 by kernel_rfl).symm.trans hf) |>.symm
      obtain rfl : fn = Tryd.f3 := (Option.some.inj (Tryd.func3.symm.trans hfn)).symm
      exact ⟨by kernel_rfl, fun j t ht => by
        rw [Tryd.params3] at ht
        have hm : t ∈ [9, 9] := by simpa using Array.mem_of_getElem? ht
        have hall : ([9, 9].all fun u => !Tryd.prog.wantsStandIn u) = true := by kernel_rfl
        exact (show Tryd.prog.wantsStandIn t = false by simpa using List.all_eq_true.1 hall t hm)⟩)
    (by kernel_rfl)
end Go.Proofs.Qxb6602136aDoor
