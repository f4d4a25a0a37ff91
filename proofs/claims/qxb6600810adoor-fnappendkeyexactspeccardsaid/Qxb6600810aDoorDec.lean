/-
  decValue, walked.
-/
import Derived.Test.Qxb6600810aDoorOrder
namespace Go.Proofs.Qxb6600810aDoor
open Go.RowKit Go.Sort

/-- The bytes of l, read off a block from an offset on. -/
def ReadsAt (w : World) (g off : Nat) (l : List UInt8) : Prop := ∀ j, j < l.length → w.cell? ⟨g, off + j, none⟩ = some (.int .u8 ((l.getD j 0).toNat : Int))

theorem isDigits_take {l : List UInt8} (h : IsDigits l) (k : Nat) : IsDigits (l.take k) := fun c hc => h c (List.mem_of_mem_take hc)

theorem digit_at {l : List UInt8} (h : IsDigits l) (k : Nat) (hk : k < l.length) : 48 ≤ (l.getD k 0).toNat ∧ (l.getD k 0).toNat ≤ 57 := by
  have hm : l.getD k 0 ∈ l := by
    simp only [List.getD, List.getElem?_eq_getElem hk, Option.getD_some]
    exact List.getElem_mem hk
  exact h _ hm

theorem pow_le19 (k : Nat) (h : k ≤ 18) : 10 ^ k ≤ 1000000000000000000 := by
  have : 10 ^ k ≤ 10 ^ 18 := Nat.pow_le_pow_right (by decide) h
  simpa using this

set_option maxHeartbeats 3200000 in
set_option maxRecDepth 100000 in
theorem decValue_calls (g off cap n : Nat) (l : List UInt8) (hl : l.length = n) (h1 : 1 ≤ n) (h19 : n ≤ 19) (hd : IsDigits l) (w : World) (hr : ReadsAt w g off l) :
    Calls Tryd.prog 10 #[.slice (some ⟨g, off, none⟩) n cap] w fun e w' => e = .returned (.tuple #[.int .u64 (dval l), .bool true]) ∧ w' = w := by
  have HL := Lib.hid hl
  have HD := Lib.hid hd
  have HR := Lib.hid hr
  have e0 : ((n : Int) == 0) = false := beq_eq_false_iff_ne.2 (by omega)
  have e19 : decide ((19 : Int) < (n : Int)) = false := by simp; omega
  clear hl hd hr
  go_enter Tryd.func10, Tryd.ntmps10
  go_wp2_with fail
  go_loop [4, 5] (fun v i => ∃ (k : Nat) (x : Int), k ≤ n ∧ i = .int .i64 k ∧ v = .int .u64 x ∧ Hid (x = (dval (l.take k) : Int)))
    (fun _ i => n - (intOf i).toNat)
  case atStart => exact ⟨0, 0, Nat.zero_le _, rfl, rfl, by simp [Hid, dval]⟩
  case round =>
    obtain ⟨k, x, hk, rfl, rfl, HV⟩ := hrel
    by_cases hkn : k < n
    · have hkl : k < l.length := by rw [HL.out]; exact hkn
      obtain ⟨c, hc⟩ : ∃ c, l.getD k 0 = c := ⟨_, rfl⟩
      have hcell := HR.out k hkl
      obtain ⟨b1, b2⟩ := digit_at HD.out k hkl
      have hstep := dval_take_succ l k hkl
      have hlt := dval_lt _ (isDigits_take HD.out k)
      rw [List.length_take, Nat.min_eq_left (by omega)] at hlt
      have hp := pow_le19 k (by omega)
      have hV := HV.out
      rw [hc] at hcell b1 b2 hstep
      have hx0 : 0 ≤ x := by omega
      have hx1 : x < 1000000000000000000 := by omega
      have HS := Lib.hid (show x * 10 + ((c.toNat : Int) - 48) = (dval (l.take (k + 1)) : Int) by omega)
      have ik : (k : Int) < (n : Int) := by omega
      clear hc hstep hlt hp hV hkl
      go_wp2_with fail
      go_round
      case rel => exact ⟨k + 1, x * 10 + ((c.toNat : Int) - 48), by omega, by go_num, rfl, HS⟩
      case measure => simp only [intOf]; omega
    · have ik : ¬ (k : Int) < (n : Int) := by omega
      have hV := HV.out
      rw [show k = n by omega, ← HL.out, List.take_length] at hV
      have HV' := Lib.hid hV
      clear hV
      go_wp2_with fail
      go_ret2
      refine ⟨?_, rfl⟩
      have hV := HV'.out
      subst hV
      rfl
end Go.Proofs.Qxb6600810aDoor
