/-
  Op's String, walked (strconv.Itoa by the guide's own contract); the law's own function, walked out of the two contracts.
-/
import Derived.Test.Qxb6000023aDoorParse
import Derived.Test.Qxb6000023aDoorShelf
import Derived.Lib.AppendIntMem
namespace Go.Proofs.Qxb6000023aDoor
open Go.RowKit Go.Sort

/-- The table's name, off the given row. -/
abbrev tabName : String := Rows.fnOpStringParseRow.named.headD ""

theorem itoa_calls (n : Nat) (hn : n < 256) (w : World) (htab : Lib.TabIs Tryd.prog w tabName .u64 Lib.pow10Tab) :
    Calls Tryd.prog 7 #[.int .i64 n] w fun e w' => e = .returned (.string ⟨(Lib.decDigits n).toArray⟩) ∧ ∃ k os, w' = grow (w.drewN k) os := by
  refine (Any.strconv_Itoa Tryd.laysM171 (n : Int) (by omega) (by omega) w htab).mono ?_
  rintro e w' ⟨rfl, h⟩
  rw [Lib.itoa_nonneg]
  exact ⟨rfl, h⟩

set_option maxHeartbeats 1600000 in
theorem string_sign (n : Nat) (hn : n < 5) (w : World) :
    Calls Tryd.prog 5 #[.int .u8 n] w fun e w' => e = .returned (.string ⟨(signOf n).toArray⟩) ∧ w' = w := by
  obtain rfl | rfl | rfl | rfl | rfl : n = 0 ∨ n = 1 ∨ n = 2 ∨ n = 3 ∨ n = 4 := by omega
  all_goals
    simp only [signOf, List.getD_cons_zero, List.getD_cons_succ]
    go_enter Tryd.func5, Tryd.ntmps5
    go_wp2
    go_ret
    exact ⟨rfl, rfl⟩

set_option maxHeartbeats 1600000 in
theorem string_other (n : Nat) (h5 : 5 ≤ n) (hn : n < 256) (w : World) (htab : Lib.TabIs Tryd.prog w tabName .u64 Lib.pow10Tab) :
    Calls Tryd.prog 5 #[.int .u8 n] w fun e w' => (∃ t, e = .returned (.string t) ∧ t.data.toList = [79, 112, 40] ++ Lib.decDigits n ++ [41]) ∧ ∃ k os, w' = grow (w.drewN k) os := by
  have e0 : ((n : Int) == 0) = false := beq_eq_false_iff_ne.2 (by omega)
  have e1 : ((n : Int) == 1) = false := beq_eq_false_iff_ne.2 (by omega)
  have e2 : ((n : Int) == 2) = false := beq_eq_false_iff_ne.2 (by omega)
  have e3 : ((n : Int) == 3) = false := beq_eq_false_iff_ne.2 (by omega)
  have e4 : ((n : Int) == 4) = false := beq_eq_false_iff_ne.2 (by omega)
  have hl := digits_len3 n hn
  have hc := itoa_calls n hn w htab
  have HC := Lib.hid hc
  clear hc htab
  go_enter Tryd.func5, Tryd.ntmps5
  go_wp2_with fail
  refine HC.out.mono ?_
  rintro e w1 ⟨rfl, hw1⟩
  have HW := Lib.hid hw1
  clear hw1
  go_wp2_with fail
  go_ret
  exact ⟨⟨_, rfl, by simp⟩, HW.out⟩

set_option maxHeartbeats 1600000 in
theorem law_sign (n : Nat) (h5 : n < 5) (w : World) :
    Calls Tryd.prog 3 #[.int .u8 n] w fun e w' => e = .returned (.bool true) ∧ Below w.heap.size w w' := by
  have hs : (⟨(signOf n).toArray⟩ : ByteArray).size ≤ 2 := by
    obtain rfl | rfl | rfl | rfl | rfl : n = 0 ∨ n = 1 ∨ n = 2 ∨ n = 3 ∨ n = 4 := by omega
    all_goals decide
  have hc := string_sign n h5 w
  have hp := parse_sign n h5 w
  generalize (⟨(signOf n).toArray⟩ : ByteArray) = s at hs hc hp
  have HC := Lib.hid hc
  have HP := Lib.hid hp
  clear hc hp
  go_enter Tryd.func3, Tryd.ntmps3
  go_wp2_with fail
  refine HC.out.mono ?_
  rintro e w1 ⟨rfl, rfl⟩
  go_wp2_with fail
  refine HP.out.mono ?_
  rintro e w2 ⟨rfl, rfl⟩
  go_wp2_with fail
  go_ret
  exact ⟨by simp; omega, Below.refl _ _⟩

set_option maxHeartbeats 1600000 in
theorem law_other (n : Nat) (h5 : 5 ≤ n) (hn : n < 256) (w : World) (htab : Lib.TabIs Tryd.prog w tabName .u64 Lib.pow10Tab) :
    Calls Tryd.prog 3 #[.int .u8 n] w fun e w' => e = .returned (.bool true) ∧ Below w.heap.size w w' := by
  have HC := Lib.hid (string_other n h5 hn w htab)
  clear htab
  have e4 : decide ((n : Int) ≤ 4) = false := by simp; omega
  go_enter Tryd.func3, Tryd.ntmps3
  go_wp2_with fail
  refine HC.out.mono ?_
  rintro e w1 ⟨⟨s, rfl, hs⟩, hw1⟩
  have HW := Lib.hid hw1
  have hp := parse_digits s (Lib.decDigits n) hs _ rfl (digits_pos n) (digits_len3 n hn) (digits_at n) (fun _ => digits_head n (by omega)) w1
  rw [dval_digits] at hp
  have HP := Lib.hid hp
  have hsz : 5 ≤ s.size := by
    have := digits_pos n
    rw [Lib.size_eq, hs]
    simp
    omega
  clear hw1 hs hp HC
  go_wp2_with fail
  refine HP.out.mono ?_
  rintro e w2 ⟨rfl, rfl⟩
  go_wp2_with fail
  go_ret
  obtain ⟨k, os, rfl⟩ := HW.out
  exact ⟨by simp; omega, Lib.below_grow _ _ (Nat.le_refl _) k os⟩

/-- FnOpStringParse returns true at every byte; no old block is written. -/
theorem law_walk (n : Nat) (hn : n < 256) (w : World) (htab : Lib.TabIs Tryd.prog w tabName .u64 Lib.pow10Tab) :
    Calls Tryd.prog 3 #[.int .u8 n] w fun e w' => e = .returned (.bool true) ∧ Below w.heap.size w w' := by
  by_cases h : n < 5
  · exact law_sign n h w
  · exact law_other n (by omega) hn w htab
end Go.Proofs.Qxb6000023aDoor
