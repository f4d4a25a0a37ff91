/-
  FnAppendKeyOrderMatchesNumbers, walked.
-/
import Derived.Test.Qxb6600810aDoorOrder
import Derived.Deep.AppendLies
namespace Go.Proofs.Qxb6600810aDoor
open Go.RowKit Go.Sort

theorem key_len_pos (i : Int) : 4 ≤ (keyL i).length := by unfold keyL userL; simp

/-- A row of bytes that is owned: its slice, and how it reads. -/
theorem owns_reads {w : World} {B : Nat} {v : Value} {l : List UInt8} (h : w.ownsRow B 5 1 v l.length (Lib.byteCells l)) (hl : 0 < l.length) :
    ∃ g cap, v = .slice (some ⟨g, 0, none⟩) l.length cap ∧ Reads w g l := by
  obtain ⟨g, cap, rfl, _, _⟩ := h.form hl
  refine ⟨g, cap, rfl, fun j hj => ?_⟩
  have hc := h.cells (g := g) rfl j (.int .u8 ((l.getD j 0).toNat : Int)) (by simp [Lib.byteCells, List.getD, hj])
  rw [Lib.add_plain, Nat.zero_add] at hc
  exact hc

theorem tab_on {w w' : World} (h : Lib.TabIs Tryd.prog w tabName .u64 Lib.pow10Tab) (hb : Below w.heap.size w w') : Lib.TabIs Tryd.prog w' tabName .u64 Lib.pow10Tab :=
  Lib.tabBelow_of_tabIs h w' hb

set_option maxHeartbeats 3200000 in
set_option maxRecDepth 100000 in
theorem order_in (a b : Nat) (ha : a < 10000000000) (hb : b < 10000000000) (w : World) (htab : Lib.TabIs Tryd.prog w tabName .u64 Lib.pow10Tab) :
    Calls Tryd.prog 4 #[.int .i64 a, .int .i64 b] w fun e w' => e = .returned (.bool true) ∧ Below w.heap.size w w' := by
  have HT := Lib.hid htab
  clear htab
  go_enter Tryd.func4, Tryd.ntmps4
  go_wp2_with fail
  refine (zzAppendKey_calls (.slice none 0 0) [] (a : Int) (by omega) (by omega) w (.inl ⟨rfl, rfl⟩) (by simp) HT.out).mono ?_
  rintro e w1 ⟨v1, rfl, hown1, hb1⟩
  rw [List.nil_append] at hown1
  obtain ⟨ga, ca, rfl, hra⟩ := owns_reads hown1 (by have := key_len_pos a; omega)
  have HT1 := Lib.hid (tab_on HT.out hb1)
  have HB1 := Lib.hid hb1
  have HRA := Lib.hid hra
  clear hb1 hra hown1
  go_wp2_with fail
  refine (zzAppendKey_calls (.slice none 0 0) [] (b : Int) (by omega) (by omega) w1 (.inl ⟨rfl, rfl⟩) (by simp) HT1.out).mono ?_
  rintro e w2 ⟨v2, rfl, hown2, hb2⟩
  rw [List.nil_append] at hown2
  obtain ⟨gb, cb, rfl, hrb⟩ := owns_reads hown2 (by have := key_len_pos b; omega)
  have HB2 := Lib.hid (HB1.out.trans (below_less hb2 HB1.out.size))
  have HRA2 := Lib.hid (HRA.out.on hb2)
  have HRB := Lib.hid hrb
  clear hb2 hrb hown2
  have hla : (keyL a).length = 14 := by unfold keyL; rw [List.length_append, tail_len a ha]; rfl
  have hlb : (keyL b).length = 14 := by unfold keyL; rw [List.length_append, tail_len b hb]; rfl
  have hc := compareBytes_calls (keyL a) (keyL b) ga ca gb cb 14 14 hla hlb w2 HRA2.out HRB.out (by omega) (by omega)
  rw [key_order a b ha hb] at hc
  rw [hla, hlb]
  clear hla hlb
  have fin : ∀ w3, Below w2.heap.size w2 w3 → Below w.heap.size w w3 := fun w3 h => HB2.out.trans (below_less h HB2.out.size)
  have FIN := Lib.hid fin
  clear fin
  by_cases hab : a < b
  · rw [if_pos hab] at hc
    have HC := Lib.hid hc
    clear hc
    go_wp2_with fail
    refine HC.out.mono ?_
    rintro e w3 ⟨rfl, hb3⟩
    have HB3 := Lib.hid hb3
    clear hb3
    go_wp2_with fail
    go_ret
    exact ⟨rfl, FIN.out _ HB3.out⟩
  · rw [if_neg hab] at hc
    by_cases hba : b < a
    · rw [if_pos hba] at hc
      have HC := Lib.hid hc
      clear hc
      go_wp2_with fail
      refine HC.out.mono ?_
      rintro e w3 ⟨rfl, hb3⟩
      have HB3 := Lib.hid hb3
      clear hb3
      go_wp2_with fail
      go_ret
      exact ⟨rfl, FIN.out _ HB3.out⟩
    · rw [if_neg hba] at hc
      have HC := Lib.hid hc
      clear hc
      go_wp2_with fail
      refine HC.out.mono ?_
      rintro e w3 ⟨rfl, hb3⟩
      have HB3 := Lib.hid hb3
      clear hb3
      go_wp2_with fail
      go_ret
      exact ⟨rfl, FIN.out _ HB3.out⟩

set_option maxHeartbeats 3200000 in
theorem order_out (a b : Int) (h : a < 0 ∨ 9999999999 < a ∨ b < 0 ∨ 9999999999 < b) (w : World) :
    Calls Tryd.prog 4 #[.int .i64 a, .int .i64 b] w fun e w' => e = .returned (.bool true) ∧ Below w.heap.size w w' := by
  by_cases h1 : a < 0
  · clear h
    go_enter Tryd.func4, Tryd.ntmps4
    go_wp2_with fail
    go_ret
    exact ⟨rfl, Below.refl _ _⟩
  · by_cases h2 : 9999999999 < a
    · clear h
      go_enter Tryd.func4, Tryd.ntmps4
      go_wp2_with fail
      go_ret
      exact ⟨rfl, Below.refl _ _⟩
    · by_cases h3 : b < 0
      · clear h
        go_enter Tryd.func4, Tryd.ntmps4
        go_wp2_with fail
        go_ret
        exact ⟨rfl, Below.refl _ _⟩
      · have h4 : 9999999999 < b := by omega
        clear h
        go_enter Tryd.func4, Tryd.ntmps4
        go_wp2_with fail
        go_ret
        exact ⟨rfl, Below.refl _ _⟩

/-- FnAppendKeyOrderMatchesNumbers returns true at every two int64; nothing old is written. -/
theorem order_walk (a b : Int) (w : World) (htab : Lib.TabIs Tryd.prog w tabName .u64 Lib.pow10Tab) :
    Calls Tryd.prog 4 #[.int .i64 a, .int .i64 b] w fun e w' => e = .returned (.bool true) ∧ Below w.heap.size w w' := by
  by_cases h : a < 0 ∨ 9999999999 < a ∨ b < 0 ∨ 9999999999 < b
  · exact order_out a b h w
  · obtain ⟨n, rfl⟩ : ∃ n : Nat, a = n := ⟨a.toNat, by omega⟩
    obtain ⟨m, rfl⟩ : ∃ m : Nat, b = m := ⟨b.toNat, by omega⟩
    exact order_in n m (by omega) (by omega) w htab
end Go.Proofs.Qxb6600810aDoor
