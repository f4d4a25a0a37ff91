/-
  FnBaseAfterReadsBackDecimal, walked.
-/
import Derived.Test.Qxb6602136aDoorItoa
import Derived.Test.Qxb6602136aDoorPlain
namespace Go.Proofs.Qxb6602136aDoor
open Go.RowKit Go.Sort

set_option maxHeartbeats 1600000 in
theorem zzBytes4_calls (p : ByteArray) (b : Int) (hp : p.size ≤ 9223372036854775807) (w : World) :
    Calls Tryd.prog 12 #[.string p, .int .i64 b] w fun e w' => e = .returned (.bool (decide (p.size ≤ 1048576))) ∧ w' = w := by
  by_cases h : p.size ≤ 1048576
  · go_enter Tryd.func12, Tryd.ntmps12
    go_wp2_with fail
    go_ret
    exact ⟨by simp [h], rfl⟩
  · go_enter Tryd.func12, Tryd.ntmps12
    go_wp2_with fail
    go_ret
    exact ⟨by simp [h], rfl⟩

theorem itoa_len (i : Int) (h0 : -9223372036854775808 ≤ i) (h1 : i ≤ 9223372036854775807) : (Lib.itoa i).length ≤ 20 := by
  by_cases hneg : i < 0
  · obtain ⟨u, rfl⟩ : ∃ u : Nat, i = -(u : Int) := ⟨i.natAbs, by omega⟩
    rw [Lib.itoa_neg u (by omega), List.length_cons, Lib.decDigits_length]
    have := nDigits_le 18 u (by omega)
    omega
  · obtain ⟨u, rfl⟩ : ∃ u : Nat, i = u := ⟨i.toNat, by omega⟩
    rw [Lib.itoa_nonneg, Lib.decDigits_length]
    have := nDigits_le 18 u (by omega)
    omega

set_option maxHeartbeats 1600000 in
set_option maxRecDepth 100000 in
theorem back_in (p : ByteArray) (b : Int) (h0 : -9223372036854775808 ≤ b) (h1 : b ≤ 9223372036854775807) (hp : p.size ≤ 1048556) (w : World) (hR : Ready w) :
    Calls Tryd.prog 4 #[.string p, .int .i64 b] w fun e w' => e = .returned (.bool true) ∧ Below w.heap.size w w' := by
  have hz := zzBytes4_calls p b (by omega) w
  rw [show decide (p.size ≤ 1048576) = true by simp; omega] at hz
  have HZ := Lib.hid hz
  have hi := zzItoa_calls b h0 h1 w
  have hl := itoa_len b h0 h1
  have hd := decOf_itoa b h0 h1
  generalize Lib.itoa b = l at hi hl hd
  have HI := Lib.hid hi
  have HR := Lib.hid hR
  have HD := Lib.hid hd
  clear hz hi hR hd
  go_enter Tryd.func4, Tryd.ntmps4
  go_wp2_with fail
  refine HZ.out.mono ?_
  rintro e w0 ⟨rfl, rfl⟩
  go_wp2_with fail
  refine HI.out.mono ?_
  rintro e w1 ⟨rfl, hb1⟩
  have HB1 := Lib.hid hb1
  have happ : (p ++ (⟨l.toArray⟩ : ByteArray)).data.toList = p.data.toList ++ l := by simp
  have hsz : (p ++ (⟨l.toArray⟩ : ByteArray)).size ≤ 1048576 := by
    rw [Lib.size_eq, happ, List.length_append, ← Lib.size_eq]
    omega
  have hc := zzBaseAfter_calls (p ++ ⟨l.toArray⟩) p hsz w1 (HR.out.on hb1)
  rw [happ, baseL_append, HD.out] at hc
  clear hb1 happ hsz
  by_cases hb : 0 < b
  · rw [if_pos hb] at hc
    have HC := Lib.hid hc
    clear hc
    go_wp2_with fail
    refine HC.out.mono ?_
    rintro e w2 ⟨rfl, hb2⟩
    have HB2 := Lib.hid (below_then HB1.out hb2)
    clear hb2
    unfold answer
    go_wp2_with fail
    go_ret
    exact ⟨by simp, HB2.out⟩
  · rw [if_neg hb] at hc
    have HC := Lib.hid hc
    clear hc
    go_wp2_with fail
    refine HC.out.mono ?_
    rintro e w2 ⟨rfl, hb2⟩
    have HB2 := Lib.hid (below_then HB1.out hb2)
    clear hb2
    unfold answer
    go_wp2_with fail
    go_ret
    exact ⟨by simp, HB2.out⟩

set_option maxHeartbeats 1600000 in
set_option maxRecDepth 100000 in
theorem back_out (p : ByteArray) (b : Int) (hm : p.size ≤ 9223372036854775807) (hp : 1048556 < p.size) (w : World) :
    Calls Tryd.prog 4 #[.string p, .int .i64 b] w fun e w' => e = .returned (.bool true) ∧ Below w.heap.size w w' := by
  have hz := zzBytes4_calls p b hm w
  by_cases h20 : p.size ≤ 1048576
  · rw [show decide (p.size ≤ 1048576) = true by simp; omega] at hz
    have HZ := Lib.hid hz
    clear hz
    go_enter Tryd.func4, Tryd.ntmps4
    go_wp2_with fail
    refine HZ.out.mono ?_
    rintro e w0 ⟨rfl, rfl⟩
    go_wp2_with fail
    go_ret
    exact ⟨rfl, Below.refl _ _⟩
  · rw [show decide (p.size ≤ 1048576) = false by simp; omega] at hz
    have HZ := Lib.hid hz
    clear hz
    go_enter Tryd.func4, Tryd.ntmps4
    go_wp2_with fail
    refine HZ.out.mono ?_
    rintro e w0 ⟨rfl, rfl⟩
    go_wp2_with fail
    go_ret
    exact ⟨rfl, Below.refl _ _⟩

/-- FnBaseAfterReadsBackDecimal returns true at every string and every int64; nothing old is written. -/
theorem back_walk (p : ByteArray) (b : Int) (h0 : -9223372036854775808 ≤ b) (h1 : b ≤ 9223372036854775807) (hm : p.size ≤ 9223372036854775807) (w : World) (hR : Ready w) :
    Calls Tryd.prog 4 #[.string p, .int .i64 b] w fun e w' => e = .returned (.bool true) ∧ Below w.heap.size w w' := by
  by_cases hp : p.size ≤ 1048556
  · exact back_in p b h0 h1 hp w hR
  · exact back_out p b hm (by omega) w
end Go.Proofs.Qxb6602136aDoor
