/-
  THE ROW OF FnAppendKeyExactSpec, AND ITS TIED CARD.
-/
import Derived.Test.Qxb6600810aDoorExact
import Derived.Test.Qxb6600810aDoorTie
import Derived.Test.Qxb6600810aDoorCards
import Derived.ProofKit
import Derived.OpenShut
import Derived.LaidMore
import Derived.Lay
import Derived.SevenTiedAt
import Derived.Stop.Joined
import Derived.Stop.LaidErr
import Derived.Lib.LaidTab
import Derived.ChangeOld
import Derived.Below
namespace Go.Proofs.Qxb6600810aDoor
open Go.ChangeShapes Go.WideShapes Go.ChangeAt Go.RowKit

theorem laidOut : laidOutB Tryd.prog = true := by kernel_rfl

/-- A list of numbers that fit a byte, as bytes. -/
def bytesOf (zs : List Int) : List UInt8 := zs.map fun z => UInt8.ofNat z.toNat

theorem byteCells_bytesOf (zs : List Int) (h : ∀ z ∈ zs, 0 ≤ z ∧ z ≤ 255) : Lib.byteCells (bytesOf zs) = zs.map fun z => Value.int .u8 z := by
  unfold Lib.byteCells bytesOf
  rw [List.map_map]
  apply List.map_congr_left
  intro z hz
  have := h z hz
  simp only [Function.comp, UInt8.toNat_ofNat']
  congr 1
  omega

theorem own : ownKnob Tryd.prog.godebug = none := by kernel_rfl

/-- What the row's condition gives the walk: the table of powers. -/
theorem tab_of_laid {W : World} (h : laidMetH Tryd.prog Rows.fnAppendKeyExactSpecRow.laid W) : Lib.TabIs Tryd.prog W tabName .u64 Lib.pow10Tab := by
  rw [MakeChecks.laidMetH_plain _ _ _ (by kernel_rfl)] at h
  have h2 := laidMet.tail (laidMet.tail h)
  exact Lib.tabIs_of_head (g := 3) (t := 84) (e := 26) (n := 20) (rest := []) (by kernel_rfl) (by kernel_rfl) Tryd.underlying84 Tryd.underlying26 (by kernel_rfl) (by kernel_rfl) h2

set_option maxRecDepth 100000 in
theorem lifted (os : Os) (started : os.Started) (H : Type) (enc : TypeId × Value → H) :
    ReturnsInHanded {} Tryd.checked os 3 .any (fun w args => (Rows.fnAppendKeyExactSpecSpec.pre enc Tryd.prog Tryd.f3 Rows.fnAppendKeyExactSpecRow.domain false w args ∧ laidMetH Tryd.prog Rows.fnAppendKeyExactSpecRow.laid w) ∧ sizedMet enc Tryd.prog Tryd.f3 (OpenSpec.ofChange Rows.fnAppendKeyExactSpecSpec) false w args)
      (Rows.fnAppendKeyExactSpecSpec.post enc Tryd.prog Tryd.f3 false true false false) := by
  refine returnsInHanded_of_change_and (C := Tryd.checked) (X := fun w _ => laidMetH Tryd.prog Rows.fnAppendKeyExactSpecRow.laid w) (fun _ _ _ hh h => h.of_heap hh) own started (by kernel_rfl) Tryd.func3
    (ChangeSpec.witness_shaped (enc := enc) (C := Tryd.checked) (os := os) (X := fun w _ => laidMetH Tryd.prog Rows.fnAppendKeyExactSpecRow.laid w) false (World.laidAll Tryd.prog os Rows.fnAppendKeyExactSpecRow.laid) #[.slice none 0 0, .int .i64 0] 8 (World.laidAll_os _ _ _)
      (World.shaped_of_ZipB (by kernel_rfl) (by kernel_rfl)) (by kernel_rfl) (by kernel_rfl) (by kernel_rfl)
      (by rw [MakeChecks.laidMetH_plain _ _ _ (by kernel_rfl)]; exact laidMet_laidAll _ (by kernel_rfl) (by kernel_rfl))) ?_
  intro W base args ds gs before hval0 hW _ _ hL _
  have hval : ∀ (j : Nat) t v, Tryd.f3.params[j]? = some t → args[j]? = some v → Value.okWide Tryd.prog W .any base t v := hval0
  have hW' := hW
  obtain ⟨p, q, hA0, hV, rfl, _, _⟩ := hW
  have hA : DataW.TrodAll enc Tryd.prog W 0 (fun _ => true) true Tryd.f3.params.toList args.toList ds p := hA0
  rw [Tryd.params3] at hA hval
  obtain ⟨v0, v1, d0, d1, p0, p1, rfl, rfl, rfl, h0, h1⟩ := trodAll_two hA
  obtain ⟨rfl, rfl⟩ := trodVars_none hV
  obtain ⟨a0, len0, cap0, rfl⟩ := okWide_slice Tryd.underlying22 (hval 0 22 v0 rfl rfl)
  have k0 := h0
  have lt0 : ∀ x ∈ p0, x.block < W.heap.size := by obtain ⟨m, hm⟩ := k0; exact DataW.trod_lt m _ _ _ hm
  obtain ⟨ds0, hin, hmax⟩ : ∃ ds0, In (.slice a0 len0 cap0) ds0 W ∧ ds0.length ≤ 9223372036854775807 := by
    obtain ⟨fuel, hf⟩ := h0
    rcases open_ints Tryd.underlying22 Tryd.underlying5 (by kernel_rfl) hf with ⟨hcs, _⟩ | ⟨x, l, c, zs, hcs, _, hl, hm, hz, _, hcell, hwz⟩
    · simp [Value.cells] at hcs
      obtain ⟨rfl, rfl, rfl⟩ := hcs
      exact ⟨[], .inl ⟨rfl, rfl⟩, by simp⟩
    · simp [Value.cells] at hcs
      obtain ⟨rfl, rfl, rfl⟩ := hcs
      have hzl : zs.length = cap0 := by simpa using hz
      have hmem : ∀ z ∈ zs.take len0, 0 ≤ z ∧ z ≤ 255 := fun z hzm => by
        have := bounds_u8 (hwz z (List.mem_of_mem_take hzm))
        omega
      have hlen : (bytesOf (zs.take len0)).length = len0 := by
        unfold bytesOf
        rw [List.length_map, List.length_take]
        omega
      refine ⟨bytesOf (zs.take len0), .inr ⟨x, cap0, by rw [hlen], fun j v hj => ?_⟩, by rw [hlen]; unfold maxLen at hm; omega⟩
      rw [byteCells_bytesOf _ hmem, List.getElem?_map] at hj
      have hj' : j < len0 := by
        by_cases hjl : j < len0
        · exact hjl
        · rw [List.getElem?_take, if_neg hjl] at hj
          cases hj
      have hjz : j < zs.length := by omega
      have hc := hcell j hjz
      rw [List.getElem?_take, if_pos hj', List.getElem?_eq_getElem hjz] at hj
      simp only [Option.map_some, Option.some.injEq] at hj
      rw [← hj, hc]
      simp [List.getD, hjz]
  obtain ⟨i, rfl, rfl, rfl, w1⟩ := open_int Tryd.underlying2 (hval 1 2 v1 rfl rfl) h1
  have hi := bounds_i64 w1
  refine (exact_walk _ ds0 i hi.1 hi.2 W hin hmax (tab_of_laid hL)).mono fun e W' ⟨he, hnx⟩ => ?_
  subst he
  exact ⟨_, rfl, _, _, _, [], _, [], hW', trodAll_mk1 (shut_bool Tryd.underlying4 _), trodAll_mk2 (Below.trod laidOut (by kernel_rfl) (of_decide_eq_true (by kernel_rfl)) k0 hnx lt0) (shut_int Tryd.underlying2 w1), rfl, hnx.frame _, fun h => by cases h⟩

theorem row_holds : Rows.FnAppendKeyExactSpecSaid :=
  OpenClaim.holds_of_wide 3 Tryd.f3 rfl rfl rfl rfl rfl rfl rfl ⟨rfl, rfl, rfl, rfl, rfl⟩ rfl rfl rfl rfl rfl (by kernel_rfl) Tryd.func3 (by kernel_rfl)
    (of_decide_eq_true (by kernel_rfl)) (by unfold Func.isWrapper; rw [if_neg (of_decide_eq_false (by kernel_rfl))]; exact ⟨rfl, rfl⟩)
    (fun os started H enc _ => lifted os started H enc)

/-- THE CARD. -/
theorem card_holds : Rows.FnAppendKeyExactSpecCardSaid :=
  Claim7.holds_tied_plain_at .later [] [.data, .data, .data] true Rows.fnAppendKeyExactSpecCard.stood.harness false
    row_holds (fun _ h => by cases h) (by kernel_rfl) (fun _ h => by cases h) fnAppendKeyExactSpec_row_tie rfl ⟨rfl, rfl⟩ (by kernel_rfl) rfl
    (fun f fn hf hfn => by
      obtain rfl : f = 3 := Option.some.inj ((show Tryd.prog.funcNamed Rows.fnAppendKeyExactSpecRow.func = some 3 by kernel_rfl).symm.trans hf) |>.symm
      obtain rfl : fn = Tryd.f3 := (Option.some.inj (Tryd.func3.symm.trans hfn)).symm
      exact ⟨by kernel_rfl, fun j t ht => by
        rw [Tryd.params3] at ht
        have hm : t ∈ [22, 2] := by simpa using Array.mem_of_getElem? ht
        have hall : ([22, 2].all fun u => !Tryd.prog.wantsStandIn u) = true := by kernel_rfl
        exact (show Tryd.prog.wantsStandIn t = false by simpa using List.all_eq_true.1 hall t hm)⟩)
    (by kernel_rfl)
end Go.Proofs.Qxb6600810aDoor
