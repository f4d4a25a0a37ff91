/-
  zzHasPrefix and zzBytes_FnBaseAfterMatchesDecimalModel, walked.
-/
import Derived.Test.Qxb6602136aDoorPlain
namespace Go.Proofs.Qxb6602136aDoor
open Go.RowKit Go.Sort

theorem get_eq (s : ByteArray) (i : Nat) (h : i < s.size) : s[i]'h = s.data.toList.getD i 0 := by
  obtain ⟨⟨l⟩⟩ := s
  have hl : i < l.length := h
  simp only [List.getD, List.getElem?_eq_getElem hl, Option.getD_some]
  rfl

theorem extract_get_eq (s : ByteArray) (a b i : Nat) (h : i < (s.extract a b).size) : (s.extract a b)[i]'h = s.data.toList.getD (a + i) 0 := by
  rw [get_eq]
  rw [Lib.size_eq, Lib.extract_data] at h
  rw [Lib.extract_data]
  simp only [List.length_take, List.length_drop] at h
  simp only [List.getD]
  rw [List.getElem?_take, if_pos (by omega), List.getElem?_drop]

theorem take_succ_eq (a : List UInt8) (k : Nat) (h : k < a.length) : a.take (k + 1) = a.take k ++ [a.getD k 0] := by
  rw [List.take_add_one, List.getElem?_eq_getElem h, Option.toList_some]
  simp [List.getD, h]

theorem hasPrefix_take (s p : List UInt8) (hl : p.length ≤ s.length) : Lib.hasPrefix s p = (s.take p.length == p) := by
  rw [← Lib.hasPrefix_of_take]
  simp [hl]

theorem hasPrefix_parts (s p : List UInt8) (k : Nat) (hk : k < p.length) (hl : p.length ≤ s.length) (hne : s.getD k 0 ≠ p.getD k 0) : Lib.hasPrefix s p = false := by
  rw [hasPrefix_take s p hl, beq_eq_false_iff_ne]
  intro h
  apply hne
  have h1 : (s.take p.length).getD k 0 = p.getD k 0 := by rw [h]
  simp only [List.getD] at h1 ⊢
  rw [List.getElem?_take, if_pos hk] at h1
  exact h1

set_option maxHeartbeats 1600000 in
set_option maxRecDepth 100000 in
theorem zzHasPrefix_calls (s p : ByteArray) (hs : s.size ≤ 1048576) (w : World) :
    Calls Tryd.prog 27 #[.string s, .string p] w fun e w' => e = .returned (.bool (Lib.hasPrefix s.data.toList p.data.toList)) ∧ Below w.heap.size w w' := by
  have hsl := Lib.size_eq s
  have hpl := Lib.size_eq p
  obtain ⟨n, hn⟩ : ∃ n, s.size = n := ⟨_, rfl⟩
  obtain ⟨m, hm⟩ : ∃ m, p.size = m := ⟨_, rfl⟩
  rw [hn] at hs hsl
  rw [hm] at hpl
  have HSL := Lib.hid hsl
  have HPL := Lib.hid hpl
  clear hsl hpl
  by_cases hlt : n < m
  · have hr : Lib.hasPrefix s.data.toList p.data.toList = false := by
      rw [← Lib.hasPrefix_of_take]
      have : ¬ p.data.toList.length ≤ s.data.toList.length := by rw [← HSL.out, ← HPL.out]; omega
      rw [decide_eq_false this, Bool.false_and]
    rw [hr]
    have hlt' : (n : Int) < (m : Int) := by omega
    go_enter Tryd.func27, Tryd.ntmps27
    go_wp2_with fail
    go_ret
    exact ⟨rfl, Below.refl _ _⟩
  · have hlt' : ¬ (n : Int) < (m : Int) := by omega
    obtain ⟨r, hr⟩ : ∃ r, Lib.hasPrefix s.data.toList p.data.toList = r := ⟨_, rfl⟩
    rw [hr]
    have HR := Lib.hid hr
    clear hr
    go_enter Tryd.func27, Tryd.ntmps27
    go_wp2_with fail
    go_loopw [5] (fun i wr => ∃ k : Nat, k ≤ m ∧ i = .int .i64 k ∧ Hid (s.data.toList.take k = p.data.toList.take k) ∧ Hid (Below w.heap.size w wr))
      (fun i _ => m - (intOf i).toNat)
    case atStart => exact ⟨0, Nat.zero_le _, rfl, Lib.hid (by simp), Lib.hid (Below.refl _ _)⟩
    case round =>
      obtain ⟨k, hk, rfl, HE, HW⟩ := hrel
      by_cases hkm : k < m
      · have ik : (k : Int) < (m : Int) := by omega
        have ikn : (k : Int) < (n : Int) := by omega
        obtain ⟨x, hx⟩ : ∃ x, s.data.toList.getD k 0 = x := ⟨_, rfl⟩
        obtain ⟨y, hy⟩ : ∃ y, p.data.toList.getD k 0 = y := ⟨_, rfl⟩
        have gs : ∀ h : k < s.size, s[k]'h = x := fun h => by rw [get_eq, hx]
        have gp : ∀ h : k < p.size, p[k]'h = y := fun h => by rw [get_eq, hy]
        have HX := Lib.hid hx
        have HY := Lib.hid hy
        clear hx hy
        by_cases hxy : x = y
        · subst hxy
          go_wp2_with fail
          go_quiet (fail)
          go_wp2_with fail
          go_roundw
          case rel =>
            refine ⟨k + 1, by omega, by go_num, Lib.hid ?_, Lib.hid (HW.out.trans (below_drewN' _ _ _))⟩
            rw [take_succ_eq _ k (by rw [← HSL.out]; omega), take_succ_eq _ k (by rw [← HPL.out]; omega), HE.out, HX.out, HY.out]
          case measure => simp only [intOf]; omega
        · have hxy' : ((x.toNat : Int) != (y.toNat : Int)) = true := by
            rw [bne_iff_ne]
            intro h
            apply hxy
            apply UInt8.toNat_inj.1
            omega
          go_wp2_with fail
          go_quiet (fail)
          go_wp2_with fail
          go_ret
          refine ⟨?_, HW.out.trans (below_drewN' _ _ _)⟩
          rw [← HR.out, hasPrefix_parts _ _ k (by rw [← HPL.out]; exact hkm) (by rw [← HSL.out, ← HPL.out]; omega) (by rw [HX.out, HY.out]; exact hxy)]
          rfl
      · have ik : ¬ (k : Int) < (m : Int) := by omega
        go_wp2_with fail
        go_ret
        refine ⟨?_, HW.out⟩
        have hkm' : k = p.data.toList.length := by rw [← HPL.out]; omega
        have he := HE.out
        rw [hkm', List.take_length] at he
        rw [← HR.out, hasPrefix_take _ _ (by rw [← HSL.out, ← HPL.out]; omega), he, BEq.rfl]
        rfl

set_option maxHeartbeats 1600000 in
set_option maxRecDepth 100000 in
theorem zzBytes3_calls (s p : ByteArray) (hs : s.size ≤ 9223372036854775807) (hp : p.size ≤ 9223372036854775807) (w : World) :
    Calls Tryd.prog 9 #[.string s, .string p] w fun e w' => e = .returned (.bool (decide (s.size + p.size ≤ 1048576))) ∧ w' = w := by
  by_cases h1 : s.size ≤ 1048576
  · have d1 : decide ((1048576 : Int) < (s.size : Int)) = false := by simp; omega
    by_cases h2 : p.size ≤ 1048576
    · have d2 : decide ((1048576 : Int) < (p.size : Int)) = false := by simp; omega
      by_cases h3 : s.size + p.size ≤ 1048576
      · have d3 : decide ((1048576 : Int) < (s.size : Int) + (p.size : Int)) = false := by simp; omega
        have e : decide (s.size + p.size ≤ 1048576) = true := by simp; omega
        have h1' : s.size ≤ 1048577 := by omega
        have h2' : p.size ≤ 1048577 := by omega
        rw [e]
        clear h1 h2 h3 e
        go_enter Tryd.func9, Tryd.ntmps9
        go_wp2_with fail
        go_ret
        exact ⟨rfl, rfl⟩
      · have d3 : decide ((1048576 : Int) < (s.size : Int) + (p.size : Int)) = true := by simp; omega
        have e : decide (s.size + p.size ≤ 1048576) = false := by simp; omega
        have h1' : s.size ≤ 1048577 := by omega
        have h2' : p.size ≤ 1048577 := by omega
        rw [e]
        clear h1 h2 h3 e
        go_enter Tryd.func9, Tryd.ntmps9
        go_wp2_with fail
        go_ret
        exact ⟨rfl, rfl⟩
    · have d2 : decide ((1048576 : Int) < (p.size : Int)) = true := by simp; omega
      have e : decide (s.size + p.size ≤ 1048576) = false := by simp; omega
      have h1' : s.size ≤ 1048577 := by omega
      rw [e]
      clear h1 h2 e
      go_enter Tryd.func9, Tryd.ntmps9
      go_wp2_with fail
      go_ret
      exact ⟨rfl, rfl⟩
  · have d1 : decide ((1048576 : Int) < (s.size : Int)) = true := by simp; omega
    have e : decide (s.size + p.size ≤ 1048576) = false := by simp; omega
    rw [e]
    clear h1 e
    go_enter Tryd.func9, Tryd.ntmps9
    go_wp2_with fail
    go_ret
    exact ⟨rfl, rfl⟩
end Go.Proofs.Qxb6602136aDoor
