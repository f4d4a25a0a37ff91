/-
  PLAIN LAWS: what ParseInt makes of a numeral; a numeral is what its number spells. No Go in sight.
-/
import Derived.Test.Qxb6602136aDoorBase
import Derived.Test.Qxb6602136aDoorDigits
namespace Go.Proofs.Qxb6602136aDoor
open Go

theorem foldl_dval : ∀ (p : List UInt8) (v : Nat), p.foldl (fun v c => v * 10 + (c.toNat - 48)) v = v * 10 ^ p.length + dval p
  | [], v => by simp [dval]
  | x :: p, v => by
    have h1 := foldl_dval p (v * 10 + (x.toNat - 48))
    have h2 := foldl_dval p (0 * 10 + (x.toNat - 48))
    rw [List.foldl_cons, h1]
    have e : dval (x :: p) = (0 * 10 + (x.toNat - 48)) * 10 ^ p.length + dval p := by rw [← h2]; rfl
    rw [e, List.length_cons, Nat.pow_succ, Nat.add_mul, Nat.zero_mul, Nat.zero_add, Nat.mul_assoc, Nat.mul_comm 10 (10 ^ p.length)]
    omega

theorem dval_cons (x : UInt8) (p : List UInt8) : dval (x :: p) = (x.toNat - 48) * 10 ^ p.length + dval p := by
  have h := foldl_dval p (0 * 10 + (x.toNat - 48))
  rw [Nat.zero_mul, Nat.zero_add] at h
  rw [← h]
  simp [dval]

def IsDigits (p : List UInt8) : Prop := ∀ c ∈ p, 48 ≤ c.toNat ∧ c.toNat ≤ 57

theorem dval_lt : ∀ (p : List UInt8), IsDigits p → dval p < 10 ^ p.length
  | [], _ => by simp [dval]
  | x :: p, h => by
    have h1 := dval_lt p (fun c hc => h c (List.mem_cons_of_mem _ hc))
    have h2 := h x List.mem_cons_self
    rw [dval_cons, List.length_cons, Nat.pow_succ]
    have : (x.toNat - 48) * 10 ^ p.length ≤ 9 * 10 ^ p.length := Nat.mul_le_mul_right _ (by omega)
    omega

/-- What the parse of a row of digits comes to, where the number fits. -/
theorem parseM_digits : ∀ (l : List UInt8) (acc : Nat), IsDigits l → acc * 10 ^ l.length + dval l ≤ 18446744073709551615 →
    Lib.parseUintM 18446744073709551615 acc l = .ok (acc * 10 ^ l.length + dval l)
  | [], acc, _, _ => by simp [Lib.parseUintM, dval]
  | c :: r, acc, hd, hle => by
    have hc := hd c List.mem_cons_self
    have hr : IsDigits r := fun x hx => hd x (List.mem_cons_of_mem _ hx)
    have e : acc * 10 ^ (c :: r).length + dval (c :: r) = (acc * 10 + (c.toNat - 48)) * 10 ^ r.length + dval r := by
      rw [dval_cons, List.length_cons, Nat.pow_succ, Nat.add_mul, Nat.mul_assoc, Nat.mul_comm 10 (10 ^ r.length)]
      omega
    rw [e] at hle ⊢
    have hpos : 1 ≤ 10 ^ r.length := Nat.pos_of_ne_zero (by simp)
    have h1 : acc * 10 + (c.toNat - 48) ≤ (acc * 10 + (c.toNat - 48)) * 10 ^ r.length := Nat.le_mul_of_pos_right _ hpos
    rw [Lib.parseUintM, if_pos hc, if_neg (by omega), if_neg (by omega)]
    exact parseM_digits r _ hr hle

theorem isDigits_dec (u : Nat) : IsDigits (Lib.decDigits u) := (digits_spec u u (Nat.le_refl _)).1

theorem parseU_digits (l : List UInt8) (hne : l ≠ []) (hd : IsDigits l) (hle : dval l ≤ 18446744073709551615) : Lib.parseUintB 64 l = .ok (dval l) := by
  unfold Lib.parseUintB
  rw [if_neg hne]
  have h := parseM_digits l 0 hd (by omega)
  rw [Nat.zero_mul, Nat.zero_add] at h
  exact h

/-- ParseInt at a row of digits. -/
theorem parseI_digits (l : List UInt8) (hne : l ≠ []) (hd : IsDigits l) (hle : dval l ≤ 9223372036854775807) : Lib.parseIntB 64 l = .ok (dval l : Int) := by
  cases l with
  | nil => exact absurd rfl hne
  | cons c r =>
    have hc := hd c List.mem_cons_self
    have h := parseU_digits (c :: r) hne hd (by omega)
    unfold Lib.parseIntB
    simp only []
    rw [if_neg (by omega), h]
    simp only []
    rw [if_neg (by omega), if_neg (by omega), if_neg (by omega)]

/-- ParseInt at a minus sign and a row of digits. -/
theorem parseI_neg (l : List UInt8) (hne : l ≠ []) (hd : IsDigits l) (hle : dval l ≤ 9223372036854775808) : Lib.parseIntB 64 (45 :: l) = .ok (-(dval l : Int)) := by
  have h := parseU_digits l hne hd (by omega)
  have e45 : (45 : UInt8).toNat = 45 := rfl
  unfold Lib.parseIntB
  simp only []
  rw [if_pos (Or.inr e45), h]
  simp only []
  rw [if_neg (fun hx => hx.1 e45), if_neg (fun hx => by have := hx.2; omega), if_pos e45]

/-- What decOf makes of a numeral. -/
theorem decOf_itoa (b : Int) (h0 : -9223372036854775808 ≤ b) (h1 : b ≤ 9223372036854775807) : decOf (Lib.itoa b) = if 0 < b then some b else none := by
  have hp : Lib.parseIntB 64 (Lib.itoa b) = .ok b := by
    by_cases hneg : b < 0
    · obtain ⟨u, rfl⟩ : ∃ u : Nat, b = -(u : Int) := ⟨b.natAbs, by omega⟩
      have h := parseI_neg (Lib.decDigits u) (by intro e; have := digits_pos u; rw [e] at this; simp at this) (isDigits_dec u) (by rw [dval_digits]; omega)
      rw [dval_digits] at h
      rw [Lib.itoa_neg u (by omega)]
      exact h
    · obtain ⟨u, rfl⟩ : ∃ u : Nat, b = u := ⟨b.toNat, by omega⟩
      have h := parseI_digits (Lib.decDigits u) (by intro e; have := digits_pos u; rw [e] at this; simp at this) (isDigits_dec u) (by rw [dval_digits]; omega)
      rw [dval_digits] at h
      rw [Lib.itoa_nonneg]
      exact h
  unfold decOf
  rw [hp]
  simp

theorem hasPrefix_self (p d : List UInt8) : Lib.hasPrefix (p ++ d) p = true := by
  unfold Lib.hasPrefix
  rw [List.isPrefixOf_iff_prefix]
  exact List.prefix_append p d

theorem baseL_append (p d : List UInt8) : baseL (p ++ d) p = decOf d := by
  unfold baseL
  rw [if_pos (hasPrefix_self p d), List.drop_left]
end Go.Proofs.Qxb6602136aDoor
