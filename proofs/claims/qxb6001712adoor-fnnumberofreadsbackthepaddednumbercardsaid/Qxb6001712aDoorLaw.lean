/-
  FnNumberOfReadsBackThePaddedNumber, walked.
-/
import Derived.Test.Qxb6001712aDoorPad
namespace Go.Proofs.Qxb6001712aDoor
open Go.RowKit Go.Sort
set_option maxHeartbeats 1600000 in
set_option maxRecDepth 100000 in
theorem law_in (p : ByteArray) (n : Nat) (hn : n < 18446744073709551616) (hp : p.size ≤ 1048576) (w : World) :
    Calls Tryd.prog 3 #[.string p, .int .u64 n] w fun e w' => e = .returned (.bool true) ∧ Below w.heap.size w w' := by
  have hz := zzBytes_calls p n (by omega) w
  rw [show decide (p.size ≤ 1048576) = true by simp; omega] at hz
  have HZ := Lib.hid hz
  have hpad := pad20_calls n hn w
  have hlen := padK_length 20 n
  obtain ⟨d, hd⟩ : ∃ d, padK n 20 = d := ⟨_, rfl⟩
  rw [hd] at hpad hlen
  have HPAD := Lib.hid hpad
  have HD := Lib.hid hd
  have hb21 : decide ((1048576 : Int) < (p.size : Int)) = false := by simp; omega
  have hp' : p.size ≤ 1048576 + 1 := by omega
  clear hz hpad hd hp
  go_enter Tryd.func3, Tryd.ntmps3
  go_wp2_with fail
  refine HZ.out.mono ?_
  rintro e w0 ⟨rfl, rfl⟩
  go_wp2_with fail
  refine HPAD.out.mono ?_
  rintro e w1 ⟨rfl, hb1⟩
  have HB1 := Lib.hid hb1
  have happ : (p ++ (⟨d.toArray⟩ : ByteArray)).data.toList = p.data.toList ++ padK n 20 := by rw [HD.out]; simp
  have HC := Lib.hid (zzNumberOf_calls (p ++ ⟨d.toArray⟩) p n hn happ w1)
  clear hb1 happ
  go_wp2_with fail
  refine HC.out.mono ?_
  rintro e w2 ⟨rfl, hb2⟩
  have HB2 := Lib.hid (below_then HB1.out hb2)
  clear hb2
  go_wp2_with fail
  go_ret
  exact ⟨by simp, HB2.out⟩

set_option maxHeartbeats 1600000 in
set_option maxRecDepth 100000 in
theorem law_out (p : ByteArray) (n : Nat) (hm : p.size ≤ 9223372036854775807) (hp : 1048576 < p.size) (w : World) :
    Calls Tryd.prog 3 #[.string p, .int .u64 n] w fun e w' => e = .returned (.bool true) ∧ Below w.heap.size w w' := by
  have hz := zzBytes_calls p n hm w
  rw [show decide (p.size ≤ 1048576) = false by simp; omega] at hz
  have HZ := Lib.hid hz
  clear hz
  go_enter Tryd.func3, Tryd.ntmps3
  go_wp2_with fail
  refine HZ.out.mono ?_
  rintro e w0 ⟨rfl, rfl⟩
  go_wp2_with fail
  go_ret
  exact ⟨rfl, Below.refl _ _⟩

/-- FnNumberOfReadsBackThePaddedNumber returns true at every string and every uint64; nothing old is written. -/
theorem law_walk (p : ByteArray) (n : Nat) (hn : n < 18446744073709551616) (hm : p.size ≤ 9223372036854775807) (w : World) :
    Calls Tryd.prog 3 #[.string p, .int .u64 n] w fun e w' => e = .returned (.bool true) ∧ Below w.heap.size w w' := by
  by_cases hp : p.size ≤ 1048576
  · exact law_in p n hn hp w
  · exact law_out p n hm (by omega) w
end Go.Proofs.Qxb6001712aDoor
