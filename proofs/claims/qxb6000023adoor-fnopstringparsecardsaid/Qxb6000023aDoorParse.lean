/-
  zzParseOp, walked: what it answers at Op, a bracket, one to three digits, a bracket; and at each of the five signs.
-/
import Derived.Test.Qxb6000023aDoorRows
import Derived.WalkKit
import Derived.WalkSpells
import Derived.WalkLawsBesides
import Derived.Lib.Strings
import Derived.Lib.Hide
import Derived.Test.Qxb6000023aDoorDigits
namespace Go.Proofs.Qxb6000023aDoor
open Go.RowKit

theorem get_eq (s : ByteArray) (i : Nat) (h : i < s.size) : s[i]'h = s.data.toList.getD i 0 := by
  obtain ⟨⟨l⟩⟩ := s
  have hl : i < l.length := h
  simp only [List.getD, List.getElem?_eq_getElem hl, Option.getD_some]
  rfl

theorem extract_get_eq (s : ByteArray) (a b i : Nat) (h : i < (s.extract a b).size) : (s.extract a b)[i]'h = s.data.toList.getD (a + i) 0 := by
  rw [get_eq]
  rw [Lib.size_eq, Lib.extract_data] at h
  rw [Lib.extract_data]
  simp only [List.length_take, List.length_drop] at h
  simp only [List.getD]
  rw [List.getElem?_take, if_pos (by omega), List.getElem?_drop]

set_option maxHeartbeats 1600000 in
theorem parse_digits (s : ByteArray) (ds : List UInt8) (hsd : s.data.toList = [79, 112, 40] ++ ds ++ [41]) (n : Nat) (hn : ds.length = n)
    (hn1 : 1 ≤ n) (hn3 : n ≤ 3) (hd : ∀ k, k < n → 48 ≤ (ds.getD k 0).toNat ∧ (ds.getD k 0).toNat ≤ 57) (hz : 1 < n → (ds.getD 0 0).toNat ≠ 48) (w : World) :
    Calls Tryd.prog 6 #[.string s] w fun e w' => e = .returned (.tuple #[.int .i64 (dval ds), .bool true]) ∧ w' = w := by
  have hs : s.size = n + 4 := by rw [Lib.size_eq, hsd]; simp; omega
  have short : ∀ l : List UInt8, l.length ≤ 2 → (s.toList == l) = false := fun l hl => by
    rw [beq_eq_false_iff_ne]
    intro h
    have := congrArg List.length h
    rw [Lib.toList_data, ← Lib.size_eq, hs] at this
    omega
  have h1 := short [61] (by simp)
  have h2 := short [60] (by simp)
  have h3 := short [60, 61] (by simp)
  have h4 := short [62] (by simp)
  have h5 := short [62, 61] (by simp)
  have g0 : ∀ h : 0 < s.size, s[0]'h = 79 := fun h => by rw [get_eq, hsd]; rfl
  have g1 : ∀ h : 1 < s.size, s[1]'h = 112 := fun h => by rw [get_eq, hsd]; rfl
  have g2 : ∀ h : 2 < s.size, s[2]'h = 40 := fun h => by rw [get_eq, hsd]; rfl
  have g3 : ∀ h : n + 3 < s.size, s[n + 3]'h = 41 := fun h => by
    rw [get_eq, hsd]
    simp [List.getD, ← hn]
  have gx : ∀ k, k < n → ∀ h : k < (s.extract 3 (n + 3)).size, (s.extract 3 (n + 3))[k]'h = ds.getD k 0 := fun k hk h => by
    rw [extract_get_eq, hsd]
    simp only [List.getD]
    rw [show [79, 112, 40] ++ ds ++ [41] = 79 :: 112 :: 40 :: (ds ++ [41]) from rfl, Nat.add_comm 3 k]
    simp only [List.getElem?_cons_succ]
    rw [List.getElem?_append_left (by omega)]
  have hw : wrap64 ((n : Int) + 4 - 1) = (n : Int) + 3 := by unfold wrap64; omega
  have hne : ((n : Int) == 0) = false := beq_eq_false_iff_ne.2 (by omega)
  have hb5 : decide ((n : Int) + 4 < 5) = false := by simp; omega
  have hb3 : decide ((3 : Int) < (n : Int)) = false := by simp; omega
  obtain ⟨c0, hc0⟩ : ∃ c0, ds.getD 0 0 = c0 := ⟨_, rfl⟩
  have gx0 : ∀ h : 0 < (s.extract 3 (n + 3)).size, (s.extract 3 (n + 3))[0]'h = c0 := fun h => by rw [gx 0 (by omega) h, hc0]
  have HX := Lib.hid gx
  have HD := Lib.hid hd
  have HN := Lib.hid hn
  clear gx hd hsd short hn
  by_cases c : n ≤ 1
  · have c' : decide ((1 : Int) < (n : Int)) = false := by simp; omega
    clear gx0 hz hc0
    go_enter Tryd.func6, Tryd.ntmps6
    go_wp2_with fail
    go_loop [5, 6] (fun v i => ∃ (k : Nat) (x : Int), k ≤ n ∧ i = .int .i64 k ∧ v = .int .i64 x ∧ Hid (x = (dval (ds.take k) : Int)) ∧ Hid (x < 10 ^ k) ∧ 0 ≤ x ∧ x < 1000)
      (fun _ i => n - (intOf i).toNat)
    case atStart => exact ⟨0, 0, by omega, rfl, rfl, by simp [Hid, dval], by simp [Hid], by omega, by omega⟩
    case round =>
      obtain ⟨k, x, hk, rfl, rfl, HV, HP, hx0, hx1⟩ := hrel
      obtain ⟨cc, hcc⟩ : ∃ cc, ds.getD k 0 = cc := ⟨_, rfl⟩
      have gk : k < n → ∀ h : k < (s.extract 3 (n + 3)).size, (s.extract 3 (n + 3))[k]'h = cc := fun hk' h => by rw [HX.out k hk' h, hcc]
      have gb : k < n → 48 ≤ cc.toNat ∧ cc.toNat ≤ 57 := fun hk' => by have := HD.out k hk'; rw [hcc] at this; exact this
      have HC := Lib.hid hcc
      clear hcc
      by_cases hkn : k < n
      · have gk1 := gk hkn
        obtain ⟨gb1, gb2⟩ := gb hkn
        clear gk gb
        go_wp2
        go_round
        case rel =>
          have hstep := dval_take_succ ds k (by have := HN.out; omega)
          have hV := HV.out
          have hP := HP.out
          rw [HC.out] at hstep
          have hpow : (10 : Int) ^ (k + 1) = 10 ^ k * 10 := Int.pow_succ 10 k
          have h3 : (10 : Int) ^ (k + 1) ≤ 10 ^ 3 := by
            obtain rfl | rfl | rfl : k = 0 ∨ k = 1 ∨ k = 2 := by omega
            all_goals decide
          exact ⟨u2, u3, .int .i64 (x * 10 + ((cc.toNat : Int) - 48)), .int .i64 ((k : Int) + 1), ⟨k + 1, by omega, by go_num, x * 10 + ((cc.toNat : Int) - 48), rfl, by unfold Hid; omega, by unfold Hid; omega, by omega, by omega⟩, rfl, rfl, rfl, rfl⟩
        case measure => simp only [intOf]; omega
      · clear gk gb
        have hkn' : k = n := by omega
        have hV := HV.out
        have hn' := HN.out
        rw [hkn', ← hn', List.take_length] at hV
        have HV' := Lib.hid hV
        clear hV hkn' hn'
        go_wp2
        go_ret2
        refine ⟨?_, rfl⟩
        have hV := HV'.out
        subst hV
        rfl
  · have c' : ((c0.toNat : Int) == 48) = false := beq_eq_false_iff_ne.2 (by rw [hc0] at hz; have := hz (by omega); omega)
    have c2 : decide ((1 : Int) < (n : Int)) = true := by simp; omega
    clear hz hc0
    go_enter Tryd.func6, Tryd.ntmps6
    go_wp2_with fail
    go_loop [5, 6] (fun v i => ∃ (k : Nat) (x : Int), k ≤ n ∧ i = .int .i64 k ∧ v = .int .i64 x ∧ Hid (x = (dval (ds.take k) : Int)) ∧ Hid (x < 10 ^ k) ∧ 0 ≤ x ∧ x < 1000)
      (fun _ i => n - (intOf i).toNat)
    case atStart => exact ⟨0, 0, by omega, rfl, rfl, by simp [Hid, dval], by simp [Hid], by omega, by omega⟩
    case round =>
      obtain ⟨k, x, hk, rfl, rfl, HV, HP, hx0, hx1⟩ := hrel
      obtain ⟨cc, hcc⟩ : ∃ cc, ds.getD k 0 = cc := ⟨_, rfl⟩
      have gk : k < n → ∀ h : k < (s.extract 3 (n + 3)).size, (s.extract 3 (n + 3))[k]'h = cc := fun hk' h => by rw [HX.out k hk' h, hcc]
      have gb : k < n → 48 ≤ cc.toNat ∧ cc.toNat ≤ 57 := fun hk' => by have := HD.out k hk'; rw [hcc] at this; exact this
      have HC := Lib.hid hcc
      clear hcc
      by_cases hkn : k < n
      · have gk1 := gk hkn
        obtain ⟨gb1, gb2⟩ := gb hkn
        clear gk gb
        go_wp2
        go_round
        case rel =>
          have hstep := dval_take_succ ds k (by have := HN.out; omega)
          have hV := HV.out
          have hP := HP.out
          rw [HC.out] at hstep
          have hpow : (10 : Int) ^ (k + 1) = 10 ^ k * 10 := Int.pow_succ 10 k
          have h3 : (10 : Int) ^ (k + 1) ≤ 10 ^ 3 := by
            obtain rfl | rfl | rfl : k = 0 ∨ k = 1 ∨ k = 2 := by omega
            all_goals decide
          exact ⟨u2, u3, .int .i64 (x * 10 + ((cc.toNat : Int) - 48)), .int .i64 ((k : Int) + 1), ⟨k + 1, by omega, by go_num, x * 10 + ((cc.toNat : Int) - 48), rfl, by unfold Hid; omega, by unfold Hid; omega, by omega, by omega⟩, rfl, rfl, rfl, rfl⟩
        case measure => simp only [intOf]; omega
      · clear gk gb
        have hkn' : k = n := by omega
        have hV := HV.out
        have hn' := HN.out
        rw [hkn', ← hn', List.take_length] at hV
        have HV' := Lib.hid hV
        clear hV hkn' hn'
        go_wp2
        go_ret2
        refine ⟨?_, rfl⟩
        have hV := HV'.out
        subst hV
        rfl

/-- The five signs. -/
def signOf (n : Nat) : List UInt8 := [[61], [60], [60, 61], [62], [62, 61]].getD n []

set_option maxHeartbeats 1600000 in
theorem parse_sign (n : Nat) (hn : n < 5) (w : World) :
    Calls Tryd.prog 6 #[.string ⟨(signOf n).toArray⟩] w fun e w' => e = .returned (.tuple #[.int .i64 n, .bool true]) ∧ w' = w := by
  obtain rfl | rfl | rfl | rfl | rfl : n = 0 ∨ n = 1 ∨ n = 2 ∨ n = 3 ∨ n = 4 := by omega
  all_goals
    simp only [signOf, List.getD_cons_zero, List.getD_cons_succ]
    go_enter Tryd.func6, Tryd.ntmps6
    go_wp2
    go_ret2
    exact ⟨rfl, rfl⟩
end Go.Proofs.Qxb6000023aDoor
