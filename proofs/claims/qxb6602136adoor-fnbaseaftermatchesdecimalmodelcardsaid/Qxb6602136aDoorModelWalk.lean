/-
  zzModelBase, walked.
-/
import Derived.Test.Qxb6602136aDoorModel
namespace Go.Proofs.Qxb6602136aDoor
open Go.RowKit Go.Sort

set_option maxHeartbeats 1600000 in
set_option maxRecDepth 100000 in
theorem model_noprefix (s p : ByteArray) (hs : s.size ≤ 1048576) (hp : Lib.hasPrefix s.data.toList p.data.toList = false) (w : World) :
    Calls Tryd.prog 11 #[.string s, .string p] w fun e w' => e = .returned (answer none) ∧ Below w.heap.size w w' := by
  have hc := zzHasPrefix_calls s p hs w
  rw [hp] at hc
  have HC := Lib.hid hc
  clear hc hp
  go_enter Tryd.func11, Tryd.ntmps11
  go_wp2_with fail
  refine HC.out.mono ?_
  rintro e w1 ⟨rfl, hb1⟩
  have HB1 := Lib.hid hb1
  clear hb1
  go_wp2_with fail
  go_ret2
  exact ⟨rfl, HB1.out⟩

/-- What stands behind a prefix. -/
structure Behind (s p : ByteArray) (m n : Nat) (d : List UInt8) : Prop where
  pre : Lib.hasPrefix s.data.toList p.data.toList = true
  ps : p.size = m
  ss : s.size = m + n
  dl : d.length = n
  at_ : ∀ k, k < n → ∀ h : k < (s.extract m (m + n)).size, (s.extract m (m + n))[k]'h = d.getD k 0

theorem behind (s p : ByteArray) (hp : Lib.hasPrefix s.data.toList p.data.toList = true) : ∃ m n, Behind s p m n (s.data.toList.drop p.data.toList.length) := by
  have hle : p.data.toList.length ≤ s.data.toList.length := by
    unfold Lib.hasPrefix at hp
    exact (List.isPrefixOf_iff_prefix.1 hp).length_le
  have e1 := Lib.size_eq s
  have e2 := Lib.size_eq p
  refine ⟨p.size, s.size - p.size, hp, rfl, by omega, by rw [List.length_drop]; omega, fun k hk h => ?_⟩
  rw [extract_get_eq]
  simp only [List.getD]
  rw [List.getElem?_drop, e2]

set_option maxHeartbeats 1600000 in
set_option maxRecDepth 100000 in
theorem model_shape (s p : ByteArray) (m n : Nat) (d : List UInt8) (h : Behind s p m n d) (hs : m + n ≤ 1048576) (hn : n = 0 ∨ 19 < n) (w : World) :
    Calls Tryd.prog 11 #[.string s, .string p] w fun e w' => e = .returned (answer none) ∧ Below w.heap.size w w' := by
  have hps := h.ps
  have hss := h.ss
  have hc := zzHasPrefix_calls s p (by omega) w
  rw [h.pre] at hc
  have HC := Lib.hid hc
  clear hc h
  rcases hn with rfl | hn
  · go_enter Tryd.func11, Tryd.ntmps11
    go_wp2_with fail
    refine HC.out.mono ?_
    rintro e w1 ⟨rfl, hb1⟩
    have HB1 := Lib.hid hb1
    clear hb1
    go_wp2_with fail
    go_ret2
    exact ⟨rfl, HB1.out⟩
  · have e0 : ((n : Int) == 0) = false := beq_eq_false_iff_ne.2 (by omega)
    have e19 : decide ((19 : Int) < (n : Int)) = true := by simp; omega
    go_enter Tryd.func11, Tryd.ntmps11
    go_wp2_with fail
    refine HC.out.mono ?_
    rintro e w1 ⟨rfl, hb1⟩
    have HB1 := Lib.hid hb1
    clear hb1
    go_wp2_with fail
    go_ret2
    exact ⟨rfl, HB1.out⟩

set_option maxHeartbeats 1600000 in
set_option maxRecDepth 100000 in
theorem model_head (s p : ByteArray) (m n : Nat) (d : List UInt8) (h : Behind s p m n d) (hs : m + n ≤ 1048576) (h1 : 1 ≤ n) (h19 : n ≤ 19) (hd : (d.getD 0 0).toNat < 49 ∨ 57 < (d.getD 0 0).toNat) (w : World) :
    Calls Tryd.prog 11 #[.string s, .string p] w fun e w' => e = .returned (answer none) ∧ Below w.heap.size w w' := by
  have hps := h.ps
  have hss := h.ss
  have hc := zzHasPrefix_calls s p (by omega) w
  rw [h.pre] at hc
  have HC := Lib.hid hc
  have g0 := h.at_ 0 (by omega)
  generalize d.getD 0 0 = c at g0 hd
  clear hc h
  have e0 : ((n : Int) == 0) = false := beq_eq_false_iff_ne.2 (by omega)
  have e19 : decide ((19 : Int) < (n : Int)) = false := by simp; omega
  rcases hd with hd | hd
  · go_enter Tryd.func11, Tryd.ntmps11
    go_wp2_with fail
    refine HC.out.mono ?_
    rintro e w1 ⟨rfl, hb1⟩
    have HB1 := Lib.hid hb1
    clear hb1
    go_wp2_with fail
    go_ret2
    exact ⟨rfl, HB1.out⟩
  · go_enter Tryd.func11, Tryd.ntmps11
    go_wp2_with fail
    refine HC.out.mono ?_
    rintro e w1 ⟨rfl, hb1⟩
    have HB1 := Lib.hid hb1
    clear hb1
    go_wp2_with fail
    go_ret2
    exact ⟨rfl, HB1.out⟩
theorem isDigits_max : IsDigits maxL := by
  unfold IsDigits maxL
  decide

theorem dval_take_le (d : List UInt8) (k : Nat) : dval (d.take k) ≤ dval d := by
  have h := dval_append (d.take k) (d.drop k)
  rw [List.take_append_drop] at h
  rw [h]
  have hpos : 1 ≤ 10 ^ (d.drop k).length := Nat.pos_of_ne_zero (by simp)
  have : dval (d.take k) ≤ dval (d.take k) * 10 ^ (d.drop k).length := Nat.le_mul_of_pos_right _ hpos
  omega

set_option maxHeartbeats 3200000 in
set_option maxRecDepth 100000 in
theorem model_main (s p : ByteArray) (m n : Nat) (d : List UInt8) (h : Behind s p m n d) (hs : m + n ≤ 1048576) (h1 : 1 ≤ n) (h19 : n ≤ 19) (hlo : 49 ≤ (d.getD 0 0).toNat) (hhi : (d.getD 0 0).toNat ≤ 57) (w : World) :
    Calls Tryd.prog 11 #[.string s, .string p] w fun e w' => e = .returned (answer (decOf d)) ∧ Below w.heap.size w w' := by
  have hps := h.ps
  have hss := h.ss
  have hc := zzHasPrefix_calls s p (by omega) w
  rw [h.pre] at hc
  have HC := Lib.hid hc
  have g0 := h.at_ 0 (by omega)
  have HAT := Lib.hid h.at_
  have HDL := Lib.hid h.dl
  have HLO := Lib.hid hlo
  generalize d.getD 0 0 = c0 at g0 hlo hhi
  clear hc h
  have e0 : ((n : Int) == 0) = false := beq_eq_false_iff_ne.2 (by omega)
  have e19 : decide ((19 : Int) < (n : Int)) = false := by simp; omega
  have c49 : decide ((c0.toNat : Int) < 49) = false := by simp; omega
  have c57 : decide ((57 : Int) < (c0.toNat : Int)) = false := by simp; omega
  go_enter Tryd.func11, Tryd.ntmps11
  go_wp2_with fail
  refine HC.out.mono ?_
  rintro e w1 ⟨rfl, hb1⟩
  have HB1 := Lib.hid hb1
  clear hb1
  go_wp2_with fail
  clear g0 c49 c57 hlo hhi
  go_loop [7] (fun i => ∃ k : Nat, k ≤ n ∧ i = .int .i64 k ∧ Hid (∀ j, j < k → 48 ≤ (d.getD j 0).toNat ∧ (d.getD j 0).toNat ≤ 57)) (fun i => n - (intOf i).toNat)
  case atStart => exact ⟨0, Nat.zero_le _, rfl, Lib.hid (fun j hj => by omega)⟩
  case round =>
    obtain ⟨k, hk, rfl, HK⟩ := hrel
    by_cases hkn : k < n
    · have ik : (k : Int) < (n : Int) := by omega
      obtain ⟨c, hc⟩ : ∃ c, d.getD k 0 = c := ⟨_, rfl⟩
      have gk := HAT.out k hkn
      rw [hc] at gk
      have HCC := Lib.hid hc
      clear hc
      by_cases hdig : 48 ≤ c.toNat ∧ c.toNat ≤ 57
      · obtain ⟨b1, b2⟩ := hdig
        go_wp2_with fail
        go_round
        case rel =>
          refine ⟨k + 1, by omega, by go_num, Lib.hid (fun j hj => ?_)⟩
          by_cases e : j = k
          · rw [e, HCC.out]; exact ⟨b1, b2⟩
          · exact HK.out j (by omega)
        case measure => simp only [intOf]; omega
      · have hbad : decOf d = none := decOf_bad (fun hg => hdig (by have := digits_at' hg.digits k (by rw [HDL.out]; exact hkn); rw [HCC.out] at this; exact this))
        have HBAD := Lib.hid hbad
        clear hbad
        by_cases hc48 : c.toNat < 48
        · clear hdig
          go_wp2_with fail
          go_ret2
          refine ⟨?_, HB1.out⟩
          rw [HBAD.out]
          rfl
        · have hc57 : 57 < c.toNat := by omega
          clear hdig
          go_wp2_with fail
          go_ret2
          refine ⟨?_, HB1.out⟩
          rw [HBAD.out]
          rfl
    · have ik : ¬ (k : Int) < (n : Int) := by omega
      have hall : IsDigits d := by
        intro c hc
        obtain ⟨j, hj, rfl⟩ := List.getElem_of_mem hc
        have := HK.out j (by have := HDL.out; omega)
        simpa [List.getD, hj] using this
      have HALL := Lib.hid hall
      clear hall
      by_cases hn19 : n = 19
      · subst hn19
        go_wp2_with fail
        go_loopw [8] (fun i wr => ∃ k2 : Nat, k2 ≤ 19 ∧ i = .int .i64 k2 ∧ Hid (d.take k2 = maxL.take k2) ∧ Hid (Below w.heap.size w wr)) (fun i _ => 19 - (intOf i).toNat)
        case atStart => exact ⟨0, Nat.zero_le _, rfl, Lib.hid (by simp), HB1⟩
        case round =>
          obtain ⟨k2, hk2, rfl, HE, HW⟩ := hrel
          by_cases hk19 : k2 < 19
          · have ik2 : (k2 : Int) < 19 := by omega
            obtain ⟨x, hx⟩ : ∃ x, d.getD k2 0 = x := ⟨_, rfl⟩
            obtain ⟨y, hy⟩ : ∃ y, maxL.getD k2 0 = y := ⟨_, rfl⟩
            have gx := HAT.out k2 hk19
            rw [hx] at gx
            have gy : ∀ h : k2 < (ByteArray.mk #[57, 50, 50, 51, 51, 55, 50, 48, 51, 54, 56, 53, 52, 55, 55, 53, 56, 48, 55]).size, (ByteArray.mk #[57, 50, 50, 51, 51, 55, 50, 48, 51, 54, 56, 53, 52, 55, 55, 53, 56, 48, 55])[k2]'h = y := fun h => by rw [get_eq, ← hy]; rfl
            have HX := Lib.hid hx
            have HY := Lib.hid hy
            clear hx hy
            by_cases hxy : x.toNat < y.toNat
            · have hltm := dval_parts d maxL k2 HALL.out isDigits_max (by rw [HDL.out]; rfl) (by rw [HDL.out]; exact hk19) HE.out (by rw [HX.out, HY.out]; exact hxy)
              have hgood : Good d := ⟨by rw [HDL.out]; omega, by rw [HDL.out]; omega, HLO.out, HALL.out, by rw [maxL_dval] at hltm; omega⟩
              have HDEC := Lib.hid (decOf_good hgood)
              have HG := Lib.hid hgood
              clear hgood
              clear hltm
              go_wp2_with fail
              go_quiet (fail)
              go_wp2_with fail
              go_loop [9, 10] (fun v i => ∃ (k3 : Nat) (x : Int), k3 ≤ 19 ∧ i = .int .i64 k3 ∧ v = .int .i64 x ∧ Hid (x = (dval (d.take k3) : Int))) (fun _ i => 19 - (intOf i).toNat)
              case atStart => exact ⟨0, 0, Nat.zero_le _, rfl, rfl, by simp [Hid, dval]⟩
              case round =>
                obtain ⟨k3, x, hk3, rfl, rfl, HV⟩ := hrel
                by_cases hkn3 : k3 < 19
                · have hkl : k3 < d.length := by rw [HDL.out]; exact hkn3
                  obtain ⟨c, hc⟩ : ∃ c, d.getD k3 0 = c := ⟨_, rfl⟩
                  have gk := HAT.out k3 hkn3
                  obtain ⟨b1, b2⟩ := digits_at' HALL.out k3 hkl
                  have hstep := dval_take_succ d k3 hkl
                  have hle := dval_take_le d (k3 + 1)
                  have hmax := HG.out.le
                  have hV := HV.out
                  rw [hc] at gk b1 b2 hstep
                  have hx0 : 0 ≤ x := by omega
                  have hx1 : x * 10 + ((c.toNat : Int) - 48) ≤ 9223372036854775807 := by omega
                  have HS := Lib.hid (show x * 10 + ((c.toNat : Int) - 48) = (dval (d.take (k3 + 1)) : Int) by omega)
                  have ik3 : (k3 : Int) < (19 : Int) := by omega
                  clear hc hstep hle hmax hV hkl
                  go_wp2_with fail
                  go_round
                  case rel => exact ⟨k3 + 1, x * 10 + ((c.toNat : Int) - 48), by omega, by go_num, rfl, HS⟩
                  case measure => simp only [intOf]; omega
                · have ik3 : ¬ (k3 : Int) < (19 : Int) := by omega
                  have hV := HV.out
                  rw [show k3 = d.length by rw [HDL.out]; omega, List.take_length] at hV
                  have HV' := Lib.hid hV
                  clear hV
                  go_wp2_with fail
                  go_ret2
                  refine ⟨?_, HW.out.trans (below_drewN' _ _ _)⟩
                  rw [HDEC.out, HV'.out]
                  rfl
            · by_cases hyx : y.toNat < x.toNat
              · have hgtm := dval_parts maxL d k2 isDigits_max HALL.out (by rw [HDL.out]; rfl) hk19 HE.out.symm (by rw [HX.out, HY.out]; exact hyx)
                have hbad : decOf d = none := decOf_bad (fun hg => by have := hg.le; rw [maxL_dval] at hgtm; omega)
                have HBAD := Lib.hid hbad
                clear hbad hgtm
                go_wp2_with fail
                go_quiet (fail)
                go_wp2_with fail
                go_quiet (fail)
                go_wp2_with fail
                go_ret2
                refine ⟨?_, (HW.out.trans (below_drewN' _ _ _)).trans (below_drewN' _ _ _)⟩
                rw [HBAD.out]
                rfl
              · have hnext : d.take (k2 + 1) = maxL.take (k2 + 1) := by
                  have exy : x = y := UInt8.toNat_inj.1 (by omega)
                  rw [take_succ_eq d k2 (by rw [HDL.out]; exact hk19), take_succ_eq maxL k2 hk19, HE.out, HX.out, HY.out, exy]
                have HNX := Lib.hid hnext
                clear hnext
                go_wp2_with fail
                go_quiet (fail)
                go_wp2_with fail
                go_quiet (fail)
                go_wp2_with fail
                go_roundw
                case rel => exact ⟨k2 + 1, by omega, by go_num, HNX, Lib.hid (HW.out.trans (below_drewN' _ _ _))⟩
                case measure => simp only [intOf]; omega
          · have ik2 : ¬ (k2 : Int) < 19 := by omega
            have heqm : d = maxL := by
              have h := HE.out
              rw [show k2 = 19 by omega, ← HDL.out, List.take_length] at h
              rw [h, HDL.out]
              rfl
            have hltm : dval d ≤ dval maxL := by rw [heqm]; exact Nat.le_refl _
            clear heqm
            have hgood : Good d := ⟨by rw [HDL.out]; omega, by rw [HDL.out]; omega, HLO.out, HALL.out, by rw [maxL_dval] at hltm; exact hltm⟩
            have HDEC := Lib.hid (decOf_good hgood)
            have HG := Lib.hid hgood
            clear hgood
            clear hltm
            go_wp2_with fail
            go_loop [9, 10] (fun v i => ∃ (k3 : Nat) (x : Int), k3 ≤ 19 ∧ i = .int .i64 k3 ∧ v = .int .i64 x ∧ Hid (x = (dval (d.take k3) : Int))) (fun _ i => 19 - (intOf i).toNat)
            case atStart => exact ⟨0, 0, Nat.zero_le _, rfl, rfl, by simp [Hid, dval]⟩
            case round =>
              obtain ⟨k3, x, hk3, rfl, rfl, HV⟩ := hrel
              by_cases hkn3 : k3 < 19
              · have hkl : k3 < d.length := by rw [HDL.out]; exact hkn3
                obtain ⟨c, hc⟩ : ∃ c, d.getD k3 0 = c := ⟨_, rfl⟩
                have gk := HAT.out k3 hkn3
                obtain ⟨b1, b2⟩ := digits_at' HALL.out k3 hkl
                have hstep := dval_take_succ d k3 hkl
                have hle := dval_take_le d (k3 + 1)
                have hmax := HG.out.le
                have hV := HV.out
                rw [hc] at gk b1 b2 hstep
                have hx0 : 0 ≤ x := by omega
                have hx1 : x * 10 + ((c.toNat : Int) - 48) ≤ 9223372036854775807 := by omega
                have HS := Lib.hid (show x * 10 + ((c.toNat : Int) - 48) = (dval (d.take (k3 + 1)) : Int) by omega)
                have ik3 : (k3 : Int) < (19 : Int) := by omega
                clear hc hstep hle hmax hV hkl
                go_wp2_with fail
                go_round
                case rel => exact ⟨k3 + 1, x * 10 + ((c.toNat : Int) - 48), by omega, by go_num, rfl, HS⟩
                case measure => simp only [intOf]; omega
              · have ik3 : ¬ (k3 : Int) < (19 : Int) := by omega
                have hV := HV.out
                rw [show k3 = d.length by rw [HDL.out]; omega, List.take_length] at hV
                have HV' := Lib.hid hV
                clear hV
                go_wp2_with fail
                go_ret2
                refine ⟨?_, HW.out⟩
                rw [HDEC.out, HV'.out]
                rfl
      · have e19' : ((n : Int) == 19) = false := beq_eq_false_iff_ne.2 (by omega)
        have hgood : Good d := ⟨by rw [HDL.out]; omega, by rw [HDL.out]; omega, HLO.out, HALL.out, by have h := dval_lt d HALL.out; rw [HDL.out] at h; have hp : 10 ^ n ≤ 10 ^ 18 := Nat.pow_le_pow_right (by decide) (by omega); omega⟩
        have HDEC := Lib.hid (decOf_good hgood)
        have HG := Lib.hid hgood
        clear hgood
        go_wp2_with fail
        go_loop [9, 10] (fun v i => ∃ (k3 : Nat) (x : Int), k3 ≤ n ∧ i = .int .i64 k3 ∧ v = .int .i64 x ∧ Hid (x = (dval (d.take k3) : Int))) (fun _ i => n - (intOf i).toNat)
        case atStart => exact ⟨0, 0, Nat.zero_le _, rfl, rfl, by simp [Hid, dval]⟩
        case round =>
          obtain ⟨k3, x, hk3, rfl, rfl, HV⟩ := hrel
          by_cases hkn3 : k3 < n
          · have hkl : k3 < d.length := by rw [HDL.out]; exact hkn3
            obtain ⟨c, hc⟩ : ∃ c, d.getD k3 0 = c := ⟨_, rfl⟩
            have gk := HAT.out k3 hkn3
            obtain ⟨b1, b2⟩ := digits_at' HALL.out k3 hkl
            have hstep := dval_take_succ d k3 hkl
            have hle := dval_take_le d (k3 + 1)
            have hmax := HG.out.le
            have hV := HV.out
            rw [hc] at gk b1 b2 hstep
            have hx0 : 0 ≤ x := by omega
            have hx1 : x * 10 + ((c.toNat : Int) - 48) ≤ 9223372036854775807 := by omega
            have HS := Lib.hid (show x * 10 + ((c.toNat : Int) - 48) = (dval (d.take (k3 + 1)) : Int) by omega)
            have ik3 : (k3 : Int) < (n : Int) := by omega
            clear hc hstep hle hmax hV hkl
            go_wp2_with fail
            go_round
            case rel => exact ⟨k3 + 1, x * 10 + ((c.toNat : Int) - 48), by omega, by go_num, rfl, HS⟩
            case measure => simp only [intOf]; omega
          · have ik3 : ¬ (k3 : Int) < (n : Int) := by omega
            have hV := HV.out
            rw [show k3 = d.length by rw [HDL.out]; omega, List.take_length] at hV
            have HV' := Lib.hid hV
            clear hV
            go_wp2_with fail
            go_ret2
            refine ⟨?_, HB1.out⟩
            rw [HDEC.out, HV'.out]
            rfl

/-- zzModelBase answers what baseAfter answers. -/
theorem model_calls (s p : ByteArray) (hs : s.size ≤ 1048576) (w : World) :
    Calls Tryd.prog 11 #[.string s, .string p] w fun e w' => e = .returned (answer (baseL s.data.toList p.data.toList)) ∧ Below w.heap.size w w' := by
  cases hp : Lib.hasPrefix s.data.toList p.data.toList with
  | false =>
    have hb : baseL s.data.toList p.data.toList = none := by
      unfold baseL
      rw [hp]
      rfl
    rw [hb]
    exact model_noprefix s p hs hp w
  | true =>
    obtain ⟨m, n, hB⟩ := behind s p hp
    have hb : baseL s.data.toList p.data.toList = decOf (s.data.toList.drop p.data.toList.length) := by
      unfold baseL
      rw [hp]
      rfl
    rw [hb]
    have hmn : m + n ≤ 1048576 := by have := hB.ss; omega
    generalize s.data.toList.drop p.data.toList.length = d at hB
    have hdl := hB.dl
    by_cases hn : n = 0 ∨ 19 < n
    · rw [decOf_bad (fun hg => by have h1 := hg.pos; have h2 := hg.len; omega)]
      exact model_shape s p m n d hB hmn hn w
    · by_cases hd : (d.getD 0 0).toNat < 49 ∨ 57 < (d.getD 0 0).toNat
      · rw [decOf_bad (fun hg => by have h1 := hg.head; have h2 := digits_at' hg.digits 0 (by omega); omega)]
        exact model_head s p m n d hB hmn (by omega) (by omega) hd w
      · exact model_main s p m n d hB hmn (by omega) (by omega) (by omega) (by omega) w
end Go.Proofs.Qxb6602136aDoor
