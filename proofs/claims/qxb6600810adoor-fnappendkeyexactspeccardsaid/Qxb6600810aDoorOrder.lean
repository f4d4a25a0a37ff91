/-
  THE PLAIN LAW: two padded numerals of ten digits compare as the numbers do. No Go in sight.
-/
import Derived.Test.Qxb6600810aDoorDigits
import Derived.Test.Qxb6600810aDoorCmp
namespace Go.Proofs.Qxb6600810aDoor
open Go

theorem foldl_dval : ∀ (p : List UInt8) (v : Nat), p.foldl (fun v c => v * 10 + (c.toNat - 48)) v = v * 10 ^ p.length + dval p
  | [], v => by simp [dval]
  | x :: p, v => by
    have h1 := foldl_dval p (v * 10 + (x.toNat - 48))
    have h2 := foldl_dval p (0 * 10 + (x.toNat - 48))
    rw [List.foldl_cons, h1]
    have e : dval (x :: p) = (0 * 10 + (x.toNat - 48)) * 10 ^ p.length + dval p := by rw [← h2]; rfl
    rw [e, List.length_cons, Nat.pow_succ, Nat.add_mul, Nat.zero_mul, Nat.zero_add, Nat.mul_assoc, Nat.mul_comm 10 (10 ^ p.length)]
    omega

theorem dval_cons (x : UInt8) (p : List UInt8) : dval (x :: p) = (x.toNat - 48) * 10 ^ p.length + dval p := by
  have h := foldl_dval p (0 * 10 + (x.toNat - 48))
  rw [Nat.zero_mul, Nat.zero_add] at h
  rw [← h]
  simp [dval]

def IsDigits (p : List UInt8) : Prop := ∀ c ∈ p, 48 ≤ c.toNat ∧ c.toNat ≤ 57

theorem dval_lt : ∀ (p : List UInt8), IsDigits p → dval p < 10 ^ p.length
  | [], _ => by simp [dval]
  | x :: p, h => by
    have h1 := dval_lt p (fun c hc => h c (List.mem_cons_of_mem _ hc))
    have h2 := h x List.mem_cons_self
    rw [dval_cons, List.length_cons, Nat.pow_succ]
    have : (x.toNat - 48) * 10 ^ p.length ≤ 9 * 10 ^ p.length := Nat.mul_le_mul_right _ (by omega)
    omega

theorem cmpL_digits : ∀ (p q : List UInt8), p.length = q.length → IsDigits p → IsDigits q →
    cmpL p q = if dval p < dval q then -1 else if dval q < dval p then 1 else 0
  | [], [], _, _, _ => by simp [cmpL, dval]
  | [], _ :: _, h, _, _ => by simp at h
  | _ :: _, [], h, _, _ => by simp at h
  | x :: p, y :: q, h, hp, hq => by
    have hl : p.length = q.length := by simpa using h
    have hp' : IsDigits p := fun c hc => hp c (List.mem_cons_of_mem _ hc)
    have hq' : IsDigits q := fun c hc => hq c (List.mem_cons_of_mem _ hc)
    have ih := cmpL_digits p q hl hp' hq'
    have lp := dval_lt p hp'
    have lq := dval_lt q hq'
    have hx := hp x List.mem_cons_self
    have hy := hq y List.mem_cons_self
    rw [cmpL, dval_cons, dval_cons, ← hl]
    rw [← hl] at lq
    by_cases h1 : x.toNat < y.toNat
    · rw [if_pos h1, if_pos]
      have : (x.toNat - 48 + 1) * 10 ^ p.length ≤ (y.toNat - 48) * 10 ^ p.length := Nat.mul_le_mul_right _ (by omega)
      rw [Nat.add_mul] at this
      omega
    · rw [if_neg h1]
      by_cases h2 : y.toNat < x.toNat
      · have : (y.toNat - 48 + 1) * 10 ^ p.length ≤ (x.toNat - 48) * 10 ^ p.length := Nat.mul_le_mul_right _ (by omega)
        rw [Nat.add_mul] at this
        rw [if_pos h2, if_neg (by omega), if_pos (by omega)]
      · have e : x.toNat = y.toNat := by omega
        rw [if_neg h2, ih, e]
        congr 1
        · simp
        · congr 1
          simp

theorem cmpL_prefix : ∀ (u p q : List UInt8), cmpL (u ++ p) (u ++ q) = cmpL p q
  | [], p, q => rfl
  | x :: u, p, q => by
    rw [List.cons_append, List.cons_append, cmpL, if_neg (by omega), if_neg (by omega)]
    exact cmpL_prefix u p q

theorem dval_zeros (k : Nat) (ds : List UInt8) : dval (List.replicate k 48 ++ ds) = dval ds := by
  induction k with
  | zero => simp
  | succ k ih =>
    rw [List.replicate_succ, List.cons_append, dval_cons, ih]
    simp

theorem isDigits_tail (n : Nat) : IsDigits (tailL (n : Int)) := by
  intro c hc
  unfold tailL at hc
  rcases List.mem_append.1 hc with h | h
  · rw [List.eq_of_mem_replicate h]; decide
  · rw [Lib.itoa_nonneg] at h
    exact (digits_spec n n (Nat.le_refl _)).1 c h

theorem tail_len (n : Nat) (h : n < 10000000000) : (tailL (n : Int)).length = 10 := by
  unfold tailL
  rw [Lib.itoa_nonneg]
  have h1 : (Lib.decDigits n).length ≤ 10 := by
    rw [Lib.decDigits_length]
    exact nDigits_le 9 n (by omega)
  simp
  omega

theorem tail_dval (n : Nat) : dval (tailL (n : Int)) = n := by
  unfold tailL
  rw [dval_zeros, Lib.itoa_nonneg, dval_digits]

/-- THE LAW: the keys compare as the numbers. -/
theorem key_order (a b : Nat) (ha : a < 10000000000) (hb : b < 10000000000) : cmpL (keyL a) (keyL b) = if a < b then -1 else if b < a then 1 else 0 := by
  unfold keyL
  rw [cmpL_prefix, cmpL_digits _ _ (by rw [tail_len a ha, tail_len b hb]) (isDigits_tail a) (isDigits_tail b), tail_dval, tail_dval]
end Go.Proofs.Qxb6600810aDoor
