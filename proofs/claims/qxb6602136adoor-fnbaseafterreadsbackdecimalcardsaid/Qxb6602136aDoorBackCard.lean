/-
  THE ROW OF FnBaseAfterReadsBackDecimal, AND ITS TIED CARD.
-/
import Derived.Test.Qxb6602136aDoorBack
import Derived.Test.Qxb6602136aDoorTie
import Derived.Test.Qxb6602136aDoorCards
import Derived.ProofKit
import Derived.ShutString
import Derived.OpenShut
import Derived.LaidMore
import Derived.Lay
import Derived.SevenTiedAt
import Derived.Stop.Joined
import Derived.Stop.LaidErr
import Derived.Lib.LaidTab
namespace Go.Proofs.Qxb6602136aDoor
open Go.ChangeShapes Go.WideShapes Go.ChangeAt Go.RowKit
open Go.ChangeMaps (open_string shut_string)

theorem own : ownKnob Tryd.prog.godebug = none := by kernel_rfl

/-- The errors' type's name, off the given datum. -/
def errName : String := match (Rows.laid_strconv_ErrSyntax : DataW Unit) with | .iface nm _ => nm | _ => ""

theorem errRow (u : TypeId) (h : Tryd.prog.typeName? 3 u = some errName) : u = 101 :=
  typeName_ptr_named (nm := "errors.errorString") (by kernel_rfl) (by kernel_rfl) (by decide) u h

/-- What the row's condition gives the walks: the table of powers and the two errors. -/
theorem ready_of_laid {W : World} (h : laidMetH Tryd.prog Rows.fnBaseAfterReadsBackDecimalRow.laid W) : Ready W := by
  rw [MakeChecks.laidMetH_plain _ _ _ (by kernel_rfl)] at h
  have h2 := laidMet.tail (laidMet.tail h)
  have h3 := laidMet.tail h2
  have h4 := laidMet.tail h3
  have ht : Lib.TabIs Tryd.prog W tabName .u64 Lib.pow10Tab := Lib.tabIs_of_head (g := 2) (t := 90) (e := 36) (n := 20) (rest := _) (by kernel_rfl) (by kernel_rfl) Tryd.underlying90 Tryd.underlying36 (by kernel_rfl) (by kernel_rfl) h2
  obtain ⟨a0, s0, hv0, -, -, -⟩ := laid_sentinel (g := 1) (tp := 101) (te := 103) (ts := 9) h3 (by kernel_rfl) (by kernel_rfl) Tryd.underlying42 errRow Tryd.underlying101 Tryd.underlying103 rfl rfl Tryd.underlying9 (by kernel_rfl) (by kernel_rfl)
  obtain ⟨a1, s1, hv1, -, -, -⟩ := laid_sentinel (g := 0) (tp := 101) (te := 103) (ts := 9) h4 (by kernel_rfl) (by kernel_rfl) Tryd.underlying42 errRow Tryd.underlying101 Tryd.underlying103 rfl rfl Tryd.underlying9 (by kernel_rfl) (by kernel_rfl)
  exact ⟨ht, ⟨_, _, hv1⟩, ⟨_, _, hv0⟩⟩

/-- The door's own heap meets the condition. -/
theorem door_met (os : Os) (args : Array Value) : laidMetH Tryd.prog Rows.fnBaseAfterReadsBackDecimalRow.laid ((World.doorLaid Tryd.prog 62 os).forCall (fun _ _ => 0) ⟨#[], args, []⟩).memory :=
  laidMetH_of_parts3 (fuel := 8) (laidMet_of_run' 8 (by kernel_rfl) (by kernel_rfl)) (by kernel_rfl) (by kernel_rfl)

set_option maxRecDepth 100000 in
theorem lifted (os : Os) (started : os.Started) (H : Type) (enc : TypeId × Value → H) :
    ReturnsInHanded {} Tryd.checked os 4 .any (fun w args => (Rows.fnBaseAfterReadsBackDecimalSpec.pre enc Tryd.prog Tryd.f4 Rows.fnBaseAfterReadsBackDecimalRow.domain false w args ∧ laidMetH Tryd.prog Rows.fnBaseAfterReadsBackDecimalRow.laid w) ∧ sizedMet enc Tryd.prog Tryd.f4 (OpenSpec.ofChange Rows.fnBaseAfterReadsBackDecimalSpec) false w args)
      (Rows.fnBaseAfterReadsBackDecimalSpec.post enc Tryd.prog Tryd.f4 false true false false) := by
  refine returnsInHanded_of_change_and (C := Tryd.checked) (X := fun w _ => laidMetH Tryd.prog Rows.fnBaseAfterReadsBackDecimalRow.laid w) (fun _ _ _ hh h => h.of_heap hh) own started (by kernel_rfl) Tryd.func4
    (ChangeSpec.witness_shaped (enc := enc) (C := Tryd.checked) (os := os) (X := fun w _ => laidMetH Tryd.prog Rows.fnBaseAfterReadsBackDecimalRow.laid w) false (World.doorLaid Tryd.prog 62 os) #[.string ByteArray.empty, .int .i64 0] 8 rfl
      (World.shaped_of_RefB (by kernel_rfl) (by kernel_rfl)) (by kernel_rfl) (by kernel_rfl) (by kernel_rfl) (door_met os _)) ?_
  intro W base args ds gs before hval0 hW _ _ hL _
  have hval : ∀ (j : Nat) t v, Tryd.f4.params[j]? = some t → args[j]? = some v → Value.okWide Tryd.prog W .any base t v := hval0
  have hW' := hW
  obtain ⟨p, q, hA0, hV, rfl, _, _⟩ := hW
  have hA : DataW.TrodAll enc Tryd.prog W 0 (fun _ => true) true Tryd.f4.params.toList args.toList ds p := hA0
  rw [Tryd.params4] at hA hval
  obtain ⟨v0, v1, d0, d1, p0, p1, rfl, rfl, rfl, h0, h1⟩ := trodAll_two hA
  obtain ⟨rfl, rfl⟩ := trodVars_none hV
  obtain ⟨s, rfl, rfl, rfl, ws⟩ := open_string Tryd.underlying9 (hval 0 9 v0 rfl rfl) h0
  obtain ⟨b, rfl, rfl, rfl, wb⟩ := open_int Tryd.underlying2 (hval 1 2 v1 rfl rfl) h1
  have hbb := bounds_i64 wb
  simp only [List.append_nil] at hW'
  refine (back_walk s b hbb.1 hbb.2 (by unfold maxLen at ws; omega) W (ready_of_laid hL)).mono fun e W' ⟨he, hnx⟩ => ?_
  subst he
  refine ⟨_, rfl, _, _, _, [], [], [], hW', ?_, ?_, rfl, hnx.frame _, fun h => by cases h⟩
  · exact trodAll_mk1 (shut_bool Tryd.underlying4 _)
  · exact trodAll_mk2 (shut_string Tryd.underlying9 ws) (shut_int Tryd.underlying2 wb)

theorem row_holds : Rows.FnBaseAfterReadsBackDecimalSaid :=
  OpenClaim.holds_of_wide 4 Tryd.f4 rfl rfl rfl rfl rfl rfl rfl ⟨rfl, rfl, rfl, rfl, rfl⟩ rfl rfl rfl rfl rfl (by kernel_rfl) Tryd.func4 (by kernel_rfl)
    (of_decide_eq_true (by kernel_rfl)) (by unfold Func.isWrapper; rw [if_neg (of_decide_eq_false (by kernel_rfl))]; exact ⟨rfl, rfl⟩)
    (fun os started H enc _ => lifted os started H enc)

/-- THE CARD. -/
theorem card_holds : Rows.FnBaseAfterReadsBackDecimalCardSaid :=
  Claim7.holds_tied_plain_at .later [] [.data, .data, .data, .sentinel, .sentinel] true Rows.fnBaseAfterReadsBackDecimalCard.stood.harness true
    row_holds (fun _ h => by cases h) (by kernel_rfl) (fun _ h => by cases h) fnBaseAfterReadsBackDecimal_row_tie rfl ⟨rfl, rfl⟩ (by kernel_rfl) rfl
    (fun f fn hf hfn => by
      obtain rfl : f = 4 := Option.some.inj ((show Tryd.prog.funcNamed Rows.fnBaseAfterReadsBackDecimalRow.func = some 4 by kernel_rfl).symm.trans hf) |>.symm
      obtain rfl : fn = Tryd.f4 := (Option.some.inj (Tryd.func4.symm.trans hfn)).symm
      exact ⟨by kernel_rfl, fun j t ht => by
        rw [Tryd.params4] at ht
        have hm : t ∈ [9, 2] := by simpa using Array.mem_of_getElem? ht
        have hall : ([9, 2].all fun u => !Tryd.prog.wantsStandIn u) = true := by kernel_rfl
        exact (show Tryd.prog.wantsStandIn t = false by simpa using List.all_eq_true.1 hall t hm)⟩)
    (by kernel_rfl)
end Go.Proofs.Qxb6602136aDoor
