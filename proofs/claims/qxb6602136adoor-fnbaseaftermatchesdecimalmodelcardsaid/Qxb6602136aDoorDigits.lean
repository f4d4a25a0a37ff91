/-
  PLAIN LAWS OF DECIMAL NUMERALS: no Go in sight. 'Lib.decDigits u': the guide's own numeral; 'dval': the number that a row of digits spells.
-/
import Derived.Lib.ItoaNum
namespace Go.Proofs.Qxb6602136aDoor
open Go

/-- The number that a row of decimal digits spells. -/
def dval (ds : List UInt8) : Nat := ds.foldl (fun v c => v * 10 + (c.toNat - 48)) 0

theorem dval_snoc (ds : List UInt8) (c : UInt8) : dval (ds ++ [c]) = dval ds * 10 + (c.toNat - 48) := by
  simp [dval]

theorem dval_take_succ (ds : List UInt8) (k : Nat) (hk : k < ds.length) : dval (ds.take (k + 1)) = dval (ds.take k) * 10 + ((ds.getD k 0).toNat - 48) := by
  rw [List.take_add_one, List.getElem?_eq_getElem hk, Option.toList_some, dval_snoc]
  simp [List.getD, hk]

theorem digit_toNat (x : Nat) (h : x < 10) : (UInt8.ofNat (48 + x)).toNat = 48 + x := by
  rw [UInt8.toNat_ofNat']
  omega

theorem digits_spec : ∀ (f u : Nat), u ≤ f → (∀ c ∈ Lib.decDigits u, 48 ≤ c.toNat ∧ c.toNat ≤ 57) ∧ dval (Lib.decDigits u) = u ∧ (1 ≤ u → ((Lib.decDigits u).getD 0 0).toNat ≠ 48) ∧ 1 ≤ (Lib.decDigits u).length
  | 0, u, hu => by
    obtain rfl : u = 0 := by omega
    rw [Lib.decDigits_one (by omega)]
    simp [dval]
  | f + 1, u, hu => by
    by_cases h : u < 10
    · rw [Lib.decDigits_one h]
      have e := digit_toNat u h
      refine ⟨fun c hc => ?_, ?_, fun h1 => ?_, by simp⟩
      · simp only [List.mem_singleton] at hc
        subst hc
        omega
      · simp only [dval, List.foldl_cons, List.foldl_nil, e]
        omega
      · simp only [List.getD_cons_zero, e]
        omega
    · have hd : Lib.decDigits u = Lib.decDigits (u / 10) ++ [UInt8.ofNat (48 + u % 10)] := by
        conv => lhs; rw [Lib.decDigits, dif_neg h]
      have e := digit_toNat (u % 10) (by omega)
      obtain ⟨h1, h2, h3, h4⟩ := digits_spec f (u / 10) (by omega)
      rw [hd]
      refine ⟨fun c hc => ?_, ?_, fun _ => ?_, by simp⟩
      · rcases List.mem_append.1 hc with hc | hc
        · exact h1 c hc
        · simp only [List.mem_singleton] at hc
          subst hc
          omega
      · rw [dval_snoc, h2, e]
        omega
      · have := h3 (by omega)
        simp only [List.getD] at this ⊢
        rw [List.getElem?_append_left (by omega)]
        exact this

theorem dval_digits (u : Nat) : dval (Lib.decDigits u) = u := (digits_spec u u (Nat.le_refl _)).2.1
theorem digits_pos (u : Nat) : 1 ≤ (Lib.decDigits u).length := (digits_spec u u (Nat.le_refl _)).2.2.2
theorem digits_head (u : Nat) (h : 1 ≤ u) : ((Lib.decDigits u).getD 0 0).toNat ≠ 48 := (digits_spec u u (Nat.le_refl _)).2.2.1 h
theorem digits_at (u k : Nat) (h : k < (Lib.decDigits u).length) : 48 ≤ ((Lib.decDigits u).getD k 0).toNat ∧ ((Lib.decDigits u).getD k 0).toNat ≤ 57 := by
  have hm : (Lib.decDigits u).getD k 0 ∈ Lib.decDigits u := by
    simp only [List.getD, List.getElem?_eq_getElem h, Option.getD_some]
    exact List.getElem_mem h
  exact (digits_spec u u (Nat.le_refl _)).1 _ hm
end Go.Proofs.Qxb6602136aDoor
