/-
  THE PLAIN LAW: baseAfter's answer and the model's are one. No Go in sight.
-/
import Derived.Test.Qxb6602136aDoorPre
import Derived.Test.Qxb6602136aDoorItoa
namespace Go.Proofs.Qxb6602136aDoor
open Go

/-- The text of the greatest int64. -/
def maxL : List UInt8 := [57, 50, 50, 51, 51, 55, 50, 48, 51, 54, 56, 53, 52, 55, 55, 53, 56, 48, 55]

theorem maxL_dval : dval maxL = 9223372036854775807 := by decide

/-- A canonical decimal of a positive int64. -/
structure Good (d : List UInt8) : Prop where
  pos : 1 ≤ d.length
  len : d.length ≤ 19
  head : 49 ≤ (d.getD 0 0).toNat
  digits : IsDigits d
  le : dval d ≤ 9223372036854775807

theorem dval_pos (d : List UInt8) (h1 : 1 ≤ d.length) (hh : 49 ≤ (d.getD 0 0).toNat) : 1 ≤ dval d := by
  cases d with
  | nil => simp at h1
  | cons c r =>
    rw [dval_cons]
    have hc : 49 ≤ c.toNat := by simpa using hh
    have hpos : 1 ≤ 10 ^ r.length := Nat.pos_of_ne_zero (by simp)
    have : 1 * 1 ≤ (c.toNat - 48) * 10 ^ r.length := Nat.mul_le_mul (by omega) hpos
    omega

theorem digits_at' {d : List UInt8} (h : IsDigits d) (k : Nat) (hk : k < d.length) : 48 ≤ (d.getD k 0).toNat ∧ (d.getD k 0).toNat ≤ 57 := by
  have hm : d.getD k 0 ∈ d := by
    simp only [List.getD, List.getElem?_eq_getElem hk, Option.getD_some]
    exact List.getElem_mem hk
  exact h _ hm

theorem ofNat_toNat (c : UInt8) (h : 48 ≤ c.toNat) (h2 : c.toNat ≤ 57) : UInt8.ofNat (48 + (c.toNat - 48)) = c := by
  apply UInt8.toNat_inj.1
  rw [digit_toNat _ (by omega)]
  omega

/-- A row of digits with no leading zero is the numeral of its number. -/
theorem digits_of_dval (d : List UInt8) (hd : IsDigits d) (hh : 49 ≤ (d.getD 0 0).toNat) : ∀ k, k + 1 ≤ d.length → Lib.decDigits (dval (d.take (k + 1))) = d.take (k + 1)
  | 0, hk => by
    have hb := digits_at' hd 0 (by omega)
    rw [take_succ_eq d 0 (by omega), List.take_zero, List.nil_append]
    have e : dval [d.getD 0 0] = (d.getD 0 0).toNat - 48 := by simp [dval]
    rw [e, Lib.decDigits_one (by omega), ofNat_toNat _ hb.1 hb.2]
  | k + 1, hk => by
    have hb := digits_at' hd (k + 1) (by omega)
    have ih := digits_of_dval d hd hh k (by omega)
    have hp := dval_pos (d.take (k + 1)) (by rw [List.length_take]; omega) (by
      have e : (d.take (k + 1)).getD 0 0 = d.getD 0 0 := by
        simp only [List.getD]
        rw [List.getElem?_take, if_pos (by omega)]
      rw [e]
      exact hh)
    rw [take_succ_eq d (k + 1) (by omega), dval_snoc]
    generalize d.getD (k + 1) 0 = c at hb
    generalize d.take (k + 1) = t at ih hp
    have h10 : ¬ dval t * 10 + (c.toNat - 48) < 10 := by omega
    rw [Lib.decDigits, dif_neg h10, show (dval t * 10 + (c.toNat - 48)) / 10 = dval t by omega, show (dval t * 10 + (c.toNat - 48)) % 10 = c.toNat - 48 by omega, ih, ofNat_toNat c hb.1 hb.2]

theorem decDigits_of_good {d : List UInt8} (h : Good d) : Lib.decDigits (dval d) = d := by
  have h1 := h.pos
  have := digits_of_dval d h.digits h.head (d.length - 1) (by omega)
  rw [show d.length - 1 + 1 = d.length by omega, List.take_length] at this
  exact this

theorem decOf_good {d : List UInt8} (h : Good d) : decOf d = some (dval d : Int) := by
  have hne : d ≠ [] := by
    intro e
    have := h.pos
    rw [e] at this
    simp at this
  have hp := parseI_digits d hne h.digits h.le
  have h1 := dval_pos d h.pos h.head
  unfold decOf
  rw [hp]
  simp only []
  rw [if_pos ⟨by omega, by rw [Lib.itoa_nonneg]; exact decDigits_of_good h⟩]

theorem decOf_bad {d : List UInt8} (h : ¬ Good d) : decOf d = none := by
  cases hd : decOf d with
  | none => rfl
  | some v =>
    exfalso
    apply h
    unfold decOf at hd
    split at hd
    · rename_i u hu
      split at hd
      · rename_i hc
        have hb := parseIntB_bounds d u hu
        obtain ⟨n, rfl⟩ : ∃ n : Nat, u = n := ⟨u.toNat, by omega⟩
        have hd2 := hc.2
        rw [Lib.itoa_nonneg] at hd2
        subst hd2
        have hn : 1 ≤ n := by omega
        have hl := nDigits_le 18 n (by omega)
        have hp := digits_pos n
        have hh := digits_head n hn
        have ha := digits_at n 0 (by omega)
        refine ⟨hp, by rw [Lib.decDigits_length]; exact hl, by omega, isDigits_dec n, by rw [dval_digits]; omega⟩
      · cases hd
    · cases hd

theorem dval_append (a b : List UInt8) : dval (a ++ b) = dval a * 10 ^ b.length + dval b := by
  have h := foldl_dval b (dval a)
  rw [← h]
  simp [dval]

/-- Two rows of digits of one length: the first place where they part decides. -/
theorem dval_parts (a b : List UInt8) (k : Nat) (ha : IsDigits a) (hb : IsDigits b) (hl : a.length = b.length) (hk : k < a.length) (he : a.take k = b.take k) (hlt : (a.getD k 0).toNat < (b.getD k 0).toNat) : dval a < dval b := by
  have da : a = a.take k ++ (a.getD k 0 :: a.drop (k + 1)) := by
    rw [← List.take_append_drop k a]
    congr 1
    · simp
    · rw [List.take_append_drop, List.drop_eq_getElem_cons hk]
      simp [List.getD, hk]
  have db : b = b.take k ++ (b.getD k 0 :: b.drop (k + 1)) := by
    rw [← List.take_append_drop k b]
    congr 1
    · simp
    · rw [List.take_append_drop, List.drop_eq_getElem_cons (by omega)]
      simp [List.getD, hl ▸ hk]
  have xa := digits_at' ha k hk
  have xb := digits_at' hb k (by omega)
  have la := dval_lt (a.drop (k + 1)) (fun c hc => ha c (List.mem_of_mem_drop hc))
  have e1 : (a.drop (k + 1)).length = (b.drop (k + 1)).length := by simp; omega
  rw [da, db, dval_append, dval_append, dval_cons, dval_cons, List.length_cons, List.length_cons, ← he, ← e1]
  generalize (a.drop (k + 1)).length = L at la
  have : ((a.getD k 0).toNat - 48 + 1) * 10 ^ L ≤ ((b.getD k 0).toNat - 48) * 10 ^ L := Nat.mul_le_mul_right _ (by omega)
  rw [Nat.add_mul] at this
  omega
end Go.Proofs.Qxb6602136aDoor
