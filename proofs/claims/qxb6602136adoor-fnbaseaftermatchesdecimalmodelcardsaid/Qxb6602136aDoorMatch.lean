/-
  FnBaseAfterMatchesDecimalModel, walked.
-/
import Derived.Test.Qxb6602136aDoorModelWalk
namespace Go.Proofs.Qxb6602136aDoor
open Go.RowKit Go.Sort

set_option maxHeartbeats 1600000 in
set_option maxRecDepth 100000 in
theorem match_in (s p : ByteArray) (hsp : s.size + p.size ≤ 1048576) (w : World) (hR : Ready w) :
    Calls Tryd.prog 3 #[.string s, .string p] w fun e w' => e = .returned (.bool true) ∧ Below w.heap.size w w' := by
  have hz := zzBytes3_calls s p (by omega) (by omega) w
  rw [show decide (s.size + p.size ≤ 1048576) = true by simp; omega] at hz
  have HZ := Lib.hid hz
  have d1 : decide ((1048576 : Int) < (s.size : Int)) = false := by simp; omega
  have d2 : decide ((1048576 : Int) < (p.size : Int)) = false := by simp; omega
  have d3 : decide ((1048576 : Int) < (s.size : Int) + (p.size : Int)) = false := by simp; omega
  have h1' : s.size ≤ 1048577 := by omega
  have h2' : p.size ≤ 1048577 := by omega
  have hb := zzBaseAfter_calls s p (by omega) w hR
  have hm : ∀ w1, Calls Tryd.prog 11 #[.string s, .string p] w1 fun e w' => e = .returned (answer (baseL s.data.toList p.data.toList)) ∧ Below w1.heap.size w1 w' := fun w1 => model_calls s p (by omega) w1
  generalize baseL s.data.toList p.data.toList = o at hb hm
  unfold answer at hb hm
  have HB := Lib.hid hb
  have HM := Lib.hid hm
  clear hz hb hm hR hsp
  go_enter Tryd.func3, Tryd.ntmps3
  go_wp2_with fail
  refine HZ.out.mono ?_
  rintro e w0 ⟨rfl, rfl⟩
  go_wp2_with fail
  refine HB.out.mono ?_
  rintro e w1 ⟨rfl, hb1⟩
  have HB1 := Lib.hid hb1
  clear hb1
  go_wp2_with fail
  refine (HM.out _).mono ?_
  rintro e w2 ⟨rfl, hb2⟩
  have HB2 := Lib.hid (below_then HB1.out hb2)
  clear hb2
  cases o with
  | none =>
    go_wp2_with fail
    go_ret
    exact ⟨by simp, HB2.out⟩
  | some v =>
    go_wp2_with fail
    go_ret
    exact ⟨by simp, HB2.out⟩

set_option maxHeartbeats 1600000 in
set_option maxRecDepth 100000 in
theorem match_out (s p : ByteArray) (hs : s.size ≤ 9223372036854775807) (hp : p.size ≤ 9223372036854775807) (hsp : 1048576 < s.size + p.size) (w : World) :
    Calls Tryd.prog 3 #[.string s, .string p] w fun e w' => e = .returned (.bool true) ∧ Below w.heap.size w w' := by
  have hz := zzBytes3_calls s p hs hp w
  rw [show decide (s.size + p.size ≤ 1048576) = false by simp; omega] at hz
  have HZ := Lib.hid hz
  clear hz hsp
  go_enter Tryd.func3, Tryd.ntmps3
  go_wp2_with fail
  refine HZ.out.mono ?_
  rintro e w0 ⟨rfl, rfl⟩
  go_wp2_with fail
  go_ret
  exact ⟨rfl, Below.refl _ _⟩

/-- FnBaseAfterMatchesDecimalModel returns true at every two strings; nothing old is written. -/
theorem match_walk (s p : ByteArray) (hs : s.size ≤ 9223372036854775807) (hp : p.size ≤ 9223372036854775807) (w : World) (hR : Ready w) :
    Calls Tryd.prog 3 #[.string s, .string p] w fun e w' => e = .returned (.bool true) ∧ Below w.heap.size w w' := by
  by_cases h : s.size + p.size ≤ 1048576
  · exact match_in s p h w hR
  · exact match_out s p hs hp (by omega) w
end Go.Proofs.Qxb6602136aDoor
