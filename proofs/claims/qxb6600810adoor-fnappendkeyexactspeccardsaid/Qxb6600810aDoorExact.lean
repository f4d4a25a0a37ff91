/-
  FnAppendKeyExactSpec, walked.
-/
import Derived.Test.Qxb6600810aDoorClone
import Derived.Test.Qxb6600810aDoorDec
import Derived.Test.Qxb6600810aDoorOrderLaw
namespace Go.Proofs.Qxb6600810aDoor
open Go.RowKit Go.Sort

theorem Full.form {dv : Value} {ds : List UInt8} {W : World} (h : Full dv ds W) :
    ∃ ad, dv = .slice ad ds.length ds.length ∧ ∀ k, k < ds.length → ∃ gd, ad = some ⟨gd, 0, none⟩ ∧ W.cell? ⟨gd, k, none⟩ = some (.int .u8 ((ds.getD k 0).toNat : Int)) := by
  rcases h with ⟨rfl, rfl⟩ | ⟨g, rfl, hg, hc⟩
  · exact ⟨none, rfl, fun k hk => by simp at hk⟩
  · refine ⟨some ⟨g, 0, none⟩, rfl, fun k hk => ⟨g, rfl, hc k _ ?_⟩⟩
    simp [Lib.byteCells, List.getD, hk]

/-- The tail of a number that is not negative. -/
theorem tail_pos (n : Nat) (hn : n ≤ 9223372036854775807) : 10 ≤ (tailL (n : Int)).length ∧ (tailL (n : Int)).length ≤ 19 ∧ (10 < (tailL (n : Int)).length → ((tailL (n : Int)).getD 0 0).toNat ≠ 48) := by
  have h19 : (Lib.decDigits n).length ≤ 19 := by
    rw [Lib.decDigits_length]
    exact nDigits_le 18 n (by omega)
  unfold tailL
  rw [Lib.itoa_nonneg]
  refine ⟨by simp; omega, by simp; omega, fun h => ?_⟩
  simp only [List.length_append, List.length_replicate] at h
  have hz : 10 - (Lib.decDigits n).length = 0 := by omega
  rw [hz, List.replicate_zero, List.nil_append]
  refine digits_head n ?_
  rcases Nat.eq_zero_or_pos n with h0 | h0
  · subst h0
    rw [Lib.decDigits_one (by omega)] at h
    simp at h
  · exact h0

/-- The tail of a negative number. -/
theorem tail_neg (u : Nat) (hu1 : 1 ≤ u) (hu : u ≤ 9223372036854775808) : ∃ z nd : Nat, z = 10 - (nd + 1) ∧ (Lib.decDigits u).length = nd ∧ 1 ≤ nd ∧ nd ≤ 19 ∧
    (tailL (-(u : Int))).length = z + 1 + nd ∧ (0 < z → z + 1 + nd = 10) ∧ tailL (-(u : Int)) = List.replicate z 48 ++ 45 :: Lib.decDigits u := by
  have h19 : (Lib.decDigits u).length ≤ 19 := by
    rw [Lib.decDigits_length]
    exact nDigits_le 18 u (by omega)
  have h1 := digits_pos u
  refine ⟨_, _, rfl, rfl, h1, h19, ?_, by omega, ?_⟩
  · unfold tailL
    rw [Lib.itoa_neg u hu1]
    simp
    omega
  · unfold tailL
    rw [Lib.itoa_neg u hu1]
    rfl

/-- How the key lies in memory: dst's bytes, the four letters, the tail. -/
structure KeyAt (w : World) (g p : Nat) (ds tl : List UInt8) : Prop where
  pre : ∀ k, k < p → w.cell? ⟨g, k, none⟩ = some (.int .u8 ((ds.getD k 0).toNat : Int))
  c0 : w.cell? ⟨g, p, none⟩ = some (.int .u8 117)
  c1 : w.cell? ⟨g, p + 1, none⟩ = some (.int .u8 115)
  c2 : w.cell? ⟨g, p + 2, none⟩ = some (.int .u8 101)
  c3 : w.cell? ⟨g, p + 3, none⟩ = some (.int .u8 114)
  tail : ReadsAt w g (p + 4) tl

theorem KeyAt.on {w w' : World} {g p : Nat} {ds tl : List UInt8} (h : KeyAt w g p ds tl) (hb : Below w.heap.size w w') : KeyAt w' g p ds tl :=
  ⟨fun k hk => by rw [hb.cell (cell_lt (h.pre k hk))]; exact h.pre k hk, by rw [hb.cell (cell_lt h.c0)]; exact h.c0, by rw [hb.cell (cell_lt h.c1)]; exact h.c1,
    by rw [hb.cell (cell_lt h.c2)]; exact h.c2, by rw [hb.cell (cell_lt h.c3)]; exact h.c3, fun j hj => by rw [hb.cell (cell_lt (h.tail j hj))]; exact h.tail j hj⟩

theorem key_reads {w : World} {B p : Nat} {v : Value} {ds tl : List UInt8} (hp : ds.length = p) (h : w.ownsRow B 5 1 v (ds ++ (userL ++ tl)).length (Lib.byteCells (ds ++ (userL ++ tl)))) :
    ∃ g cap, v = .slice (some ⟨g, 0, none⟩) (p + 4 + tl.length) cap ∧ p + 4 + tl.length ≤ cap ∧ KeyAt w g p ds tl := by
  have hlen : (ds ++ (userL ++ tl)).length = p + 4 + tl.length := by simp [userL, hp]; omega
  have hle : ∃ g cap, v = .slice (some ⟨g, 0, none⟩) (p + 4 + tl.length) cap ∧ p + 4 + tl.length ≤ cap := by
    rcases h.2 with ⟨_, h0⟩ | ⟨g, cap, cur, hv, _, _, hnc, _⟩
    · rw [hlen] at h0; omega
    · rw [hlen] at hv hnc
      exact ⟨g, cap, hv, hnc⟩
  obtain ⟨g, cap, rfl, hcap⟩ := hle
  refine ⟨g, cap, rfl, hcap, ?_⟩
  have hcell : ∀ (j : Nat) (c : UInt8), (ds ++ (userL ++ tl))[j]? = some c → w.cell? ⟨g, j, none⟩ = some (.int .u8 (c.toNat : Int)) := fun j c hj => by
    have hc := h.cells (g := g) rfl j (.int .u8 (c.toNat : Int)) (by unfold Lib.byteCells; rw [List.getElem?_map, hj]; rfl)
    rw [Lib.add_plain, Nat.zero_add] at hc
    exact hc
  refine ⟨fun k hk => hcell k _ ?_, hcell p 117 ?_, hcell (p + 1) 115 ?_, hcell (p + 2) 101 ?_, hcell (p + 3) 114 ?_, fun j hj => hcell (p + 4 + j) _ ?_⟩
  · rw [List.getElem?_append_left (by omega), List.getElem?_eq_getElem (by omega)]
    simp [List.getD, hp, hk]
  · rw [List.getElem?_append_right (by omega), hp]; simp [userL]
  · rw [List.getElem?_append_right (by omega), hp, Nat.add_sub_cancel_left]; simp [userL]
  · rw [List.getElem?_append_right (by omega), hp, Nat.add_sub_cancel_left]; simp [userL]
  · rw [List.getElem?_append_right (by omega), hp, Nat.add_sub_cancel_left]; simp [userL]
  · rw [List.getElem?_append_right (by omega), hp, show p + 4 + j - p = 4 + j by omega, List.getElem?_append_right (by simp [userL])]
    simp [userL, List.getD, hj]

set_option maxHeartbeats 3200000 in
set_option maxRecDepth 100000 in
theorem exact_pos (dv : Value) (ds : List UInt8) (n : Nat) (hn : n ≤ 9223372036854775807) (w : World) (hI : In dv ds w) (hlim : ds.length ≤ 1048576) (htab : Lib.TabIs Tryd.prog w tabName .u64 Lib.pow10Tab) :
    Calls Tryd.prog 3 #[dv, .int .i64 n] w fun e w' => e = .returned (.bool true) ∧ Below w.heap.size w w' := by
  have HT := Lib.hid htab
  have hcl := cloneBytes_calls dv ds w hI hlim
  obtain ⟨a0, cap0, rfl⟩ := hI.form
  have hzb := zzBytes_calls a0 ds.length cap0 (n : Int) w (by omega)
  have HCL := Lib.hid hcl
  have HZB := Lib.hid hzb
  have hb20 : decide (ds.length ≤ 1048576) = true := by simp; omega
  rw [hb20] at HZB
  obtain ⟨p, hp⟩ : ∃ p, ds.length = p := ⟨_, rfl⟩
  rw [hp] at hlim HZB HCL ⊢
  have HP := Lib.hid hp
  have hb21 : decide ((1048576 : Int) < (p : Int)) = false := by simp; omega
  clear htab hI hcl hzb hb20 hp
  go_enter Tryd.func3, Tryd.ntmps3
  go_wp2_with fail
  refine HZB.out.mono ?_
  rintro e w0 ⟨rfl, rfl⟩
  go_wp2_with fail
  refine HCL.out.mono ?_
  rintro e w1 ⟨v1, rfl, hF1, hb1⟩
  obtain ⟨ad, rfl, had⟩ := hF1.form
  have hk := zzAppendKey_calls _ ds (n : Int) (by omega) (by omega) w1 hF1 (by rw [HP.out]; omega) (tab_on HT.out hb1)
  rw [HP.out] at hk
  have HK := Lib.hid hk
  have HAD := Lib.hid had
  have HB1 := Lib.hid hb1
  rw [HP.out]
  clear hk had hF1 hb1 HCL HZB
  go_wp2_with fail
  refine HK.out.mono ?_
  rintro e w2 ⟨v2, rfl, hown2, hb2⟩
  unfold keyL at hown2
  obtain ⟨tl, htl⟩ : ∃ tl, tailL (n : Int) = tl := ⟨_, rfl⟩
  rw [htl] at hown2
  obtain ⟨g, cap, rfl, hcap, hkey⟩ := key_reads HP.out hown2
  obtain ⟨T, hT⟩ : ∃ T, tl.length = T := ⟨_, rfl⟩
  rw [hT] at hcap ⊢
  have hfacts := tail_pos n hn
  rw [htl, hT] at hfacts
  obtain ⟨hT10, hT19, hTz⟩ := hfacts
  have HTZ := Lib.hid hTz
  clear hTz
  have HTL := Lib.hid htl
  have HTT := Lib.hid hT
  have HKEY := Lib.hid hkey
  have HB2 := Lib.hid hb2
  clear htl hT hkey hb2 hown2 HK
  go_wp2_with fail
  go_loopw [7] (fun i wr => ∃ k : Nat, k ≤ p ∧ i = .int .i64 k ∧ Hid (Below w2.heap.size w2 wr))
    (fun i _ => p - (intOf i).toNat)
  case atStart => exact ⟨0, Nat.zero_le _, rfl, Lib.hid (Below.refl _ _)⟩
  case round =>
    obtain ⟨k, hkp, rfl, HW⟩ := hrel
    by_cases hlt : k < p
    · have ik : (k : Int) < (p : Int) := by omega
      obtain ⟨gd, rfl, hcd⟩ := HAD.out k (by rw [HP.out]; exact hlt)
      have hc1 := (HKEY.out.on HW.out).pre k hlt
      have hc2 : wr.cell? ⟨gd, k, none⟩ = some (.int .u8 ((ds.getD k 0).toNat : Int)) := by
        have h2 : w2.cell? ⟨gd, k, none⟩ = some (.int .u8 ((ds.getD k 0).toNat : Int)) := by rw [HB2.out.cell (cell_lt hcd)]; exact hcd
        rw [HW.out.cell (cell_lt h2)]
        exact h2
      generalize ds.getD k 0 = x at hc1 hc2
      clear hcd
      go_wp2_with fail
      go_quiet (fail)
      go_wp2_with fail
      go_roundw
      case rel => exact ⟨k + 1, by omega, by go_num, Lib.hid (HW.out.trans (below_drewN' _ _ _))⟩
      case measure => simp only [intOf]; omega
    · have ik : ¬ (k : Int) < (p : Int) := by omega
      have hkey := HKEY.out.on HW.out
      have k0 := hkey.c0
      have k1 := hkey.c1
      have k2 := hkey.c2
      have k3 := hkey.c3
      have HTAIL := Lib.hid hkey.tail
      have hdec := decValue_calls g (p + 4) (cap - (p + 4)) T tl HTT.out (by omega) hT19 (by rw [← HTL.out]; exact isDigits_tail n) wr hkey.tail
      rw [← HTL.out, tail_dval] at hdec
      have HDEC := Lib.hid hdec
      have fin : Below w0.heap.size w0 wr := (HB1.out.trans (below_less HB2.out HB1.out.size)).trans (below_less HW.out (Nat.le_trans HB1.out.size HB2.out.size))
      have FIN := Lib.hid fin
      clear hkey hdec fin
      by_cases hT11 : T ≤ 10
      · go_wp2_with fail
        refine HDEC.out.mono ?_
        rintro e w3 ⟨rfl, rfl⟩
        go_wp2_with fail
        go_ret
        exact ⟨by simp, FIN.out⟩
      · have ht0 := HTAIL.out 0 (by rw [HTT.out]; omega)
        have hz := HTZ.out (by omega)
        generalize tl.getD 0 0 = c0 at ht0 hz
        have hz' : ((c0.toNat : Int) == 48) = false := beq_eq_false_iff_ne.2 (by omega)
        rw [Nat.add_zero] at ht0
        clear hz
        go_wp2_with fail
        refine HDEC.out.mono ?_
        rintro e w3 ⟨rfl, rfl⟩
        go_wp2_with fail
        go_ret
        exact ⟨by simp, FIN.out⟩
set_option maxHeartbeats 3200000 in
set_option maxRecDepth 100000 in
theorem exact_neg (dv : Value) (ds : List UInt8) (u : Nat) (hu1 : 1 ≤ u) (hu : u ≤ 9223372036854775808) (w : World) (hI : In dv ds w) (hlim : ds.length ≤ 1048576) (htab : Lib.TabIs Tryd.prog w tabName .u64 Lib.pow10Tab) :
    Calls Tryd.prog 3 #[dv, .int .i64 (-(u : Int))] w fun e w' => e = .returned (.bool true) ∧ Below w.heap.size w w' := by
  have HT := Lib.hid htab
  have hcl := cloneBytes_calls dv ds w hI hlim
  obtain ⟨a0, cap0, rfl⟩ := hI.form
  have hzb := zzBytes_calls a0 ds.length cap0 (-(u : Int)) w (by omega)
  have HCL := Lib.hid hcl
  have HZB := Lib.hid hzb
  have hb20 : decide (ds.length ≤ 1048576) = true := by simp; omega
  rw [hb20] at HZB
  obtain ⟨p, hp⟩ : ∃ p, ds.length = p := ⟨_, rfl⟩
  rw [hp] at hlim HZB HCL ⊢
  have HP := Lib.hid hp
  have hb21 : decide ((1048576 : Int) < (p : Int)) = false := by simp; omega
  clear htab hI hcl hzb hb20 hp
  go_enter Tryd.func3, Tryd.ntmps3
  go_wp2_with fail
  refine HZB.out.mono ?_
  rintro e w0 ⟨rfl, rfl⟩
  go_wp2_with fail
  refine HCL.out.mono ?_
  rintro e w1 ⟨v1, rfl, hF1, hb1⟩
  obtain ⟨ad, rfl, had⟩ := hF1.form
  have hk := zzAppendKey_calls _ ds (-(u : Int)) (by omega) (by omega) w1 hF1 (by rw [HP.out]; omega) (tab_on HT.out hb1)
  rw [HP.out] at hk
  have HK := Lib.hid hk
  have HAD := Lib.hid had
  have HB1 := Lib.hid hb1
  rw [HP.out]
  clear hk had hF1 hb1 HCL HZB
  go_wp2_with fail
  refine HK.out.mono ?_
  rintro e w2 ⟨v2, rfl, hown2, hb2⟩
  unfold keyL at hown2
  obtain ⟨tl, htl⟩ : ∃ tl, tailL (-(u : Int)) = tl := ⟨_, rfl⟩
  rw [htl] at hown2
  obtain ⟨g, cap, rfl, hcap, hkey⟩ := key_reads HP.out hown2
  obtain ⟨T, hT⟩ : ∃ T, tl.length = T := ⟨_, rfl⟩
  rw [hT] at hcap ⊢
  obtain ⟨z, nd, hz, hnd, hnd1, hnd19, hTz, hzT, hform⟩ := tail_neg u hu1 hu
  rw [htl, hT] at hTz
  rw [htl] at hform
  subst hTz
  have HND := Lib.hid hnd
  have HFO := Lib.hid hform
  have HZT := Lib.hid hzT
  have hz10 : 10 ≤ z + 1 + nd := by omega
  have hz9 : z ≤ 9 := by omega
  clear hnd hform hzT hz
  have HTL := Lib.hid htl
  have HTT := Lib.hid hT
  have HKEY := Lib.hid hkey
  have HB2 := Lib.hid hb2
  clear htl hT hkey hb2 hown2 HK
  go_wp2_with fail
  go_loopw [7] (fun i wr => ∃ k : Nat, k ≤ p ∧ i = .int .i64 k ∧ Hid (Below w2.heap.size w2 wr))
    (fun i _ => p - (intOf i).toNat)
  case atStart => exact ⟨0, Nat.zero_le _, rfl, Lib.hid (Below.refl _ _)⟩
  case round =>
    obtain ⟨k, hkp, rfl, HW⟩ := hrel
    by_cases hlt : k < p
    · have ik : (k : Int) < (p : Int) := by omega
      obtain ⟨gd, rfl, hcd⟩ := HAD.out k (by rw [HP.out]; exact hlt)
      have hc1 := (HKEY.out.on HW.out).pre k hlt
      have hc2 : wr.cell? ⟨gd, k, none⟩ = some (.int .u8 ((ds.getD k 0).toNat : Int)) := by
        have h2 : w2.cell? ⟨gd, k, none⟩ = some (.int .u8 ((ds.getD k 0).toNat : Int)) := by rw [HB2.out.cell (cell_lt hcd)]; exact hcd
        rw [HW.out.cell (cell_lt h2)]
        exact h2
      generalize ds.getD k 0 = x at hc1 hc2
      clear hcd
      go_wp2_with fail
      go_quiet (fail)
      go_wp2_with fail
      go_roundw
      case rel => exact ⟨k + 1, by omega, by go_num, Lib.hid (HW.out.trans (below_drewN' _ _ _))⟩
      case measure => simp only [intOf]; omega
    · have ik : ¬ (k : Int) < (p : Int) := by omega
      have hkey := HKEY.out.on HW.out
      have k0 := hkey.c0
      have k1 := hkey.c1
      have k2 := hkey.c2
      have k3 := hkey.c3
      have htail := hkey.tail
      have hzero : ∀ j, j < z → wr.cell? ⟨g, p + 4 + j, none⟩ = some (.int .u8 48) := fun j hj => by
        have := htail j (by rw [HTT.out]; omega)
        rw [HFO.out] at this
        simp only [List.getD] at this
        rw [List.getElem?_append_left (by simpa using hj), List.getElem?_replicate, if_pos hj] at this
        exact this
      have hsign : wr.cell? ⟨g, p + 4 + z, none⟩ = some (.int .u8 45) := by
        have := htail z (by rw [HTT.out]; omega)
        rw [HFO.out] at this
        simpa [List.getD] using this
      have hdig : ReadsAt wr g (p + 4 + (z + 1)) (Lib.decDigits u) := fun j hj => by
        have := htail (z + 1 + j) (by rw [HTT.out]; rw [HND.out] at hj; omega)
        rw [HFO.out] at this
        rw [Nat.add_assoc (p + 4), this]
        congr 3
        simp only [List.getD]
        rw [List.getElem?_append_right (by simp; omega), List.length_replicate, show z + 1 + j - z = j + 1 by omega, List.getElem?_cons_succ]
      have hh0 := hdig 0 (by rw [HND.out]; omega)
      have hhz := digits_head u hu1
      generalize hc0 : (Lib.decDigits u).getD 0 0 = c0 at hh0 hhz
      have hhz' : ((c0.toNat : Int) == 48) = false := beq_eq_false_iff_ne.2 (by omega)
      rw [Nat.add_zero] at hh0
      have hdec := decValue_calls g (p + 4 + (z + 1)) (cap - (p + 4) - (z + 1)) nd (Lib.decDigits u) HND.out hnd1 hnd19 (digits_spec u u (Nat.le_refl _)).1 wr hdig
      rw [dval_digits] at hdec
      have HDEC := Lib.hid hdec
      have HZERO := Lib.hid hzero
      have fin : Below w0.heap.size w0 wr := (HB1.out.trans (below_less HB2.out HB1.out.size)).trans (below_less HW.out (Nat.le_trans HB1.out.size HB2.out.size))
      have FIN := Lib.hid fin
      clear hkey hdec fin hzero hdig hhz hc0 htail
      go_wp2_with fail
      go_loop [11] (fun i => ∃ j : Nat, j ≤ z ∧ i = .int .i64 j) (fun i => z - (intOf i).toNat)
      case atStart => exact ⟨0, Nat.zero_le _, rfl⟩
      case round =>
        obtain ⟨j, hjz, rfl⟩ := hrel
        have ij : (j : Int) < (z : Int) + 1 + (nd : Int) := by omega
        by_cases hjlt : j < z
        · have hcj := HZERO.out j hjlt
          go_wp2_with fail
          go_round
          case rel => exact ⟨j + 1, by omega, by go_num⟩
          case measure => simp only [intOf]; omega
        · obtain rfl : j = z := by omega
          by_cases hj0 : j = 0
          · subst hj0
            rw [Nat.zero_add] at HDEC hh0
            go_wp2_with fail
            refine HDEC.out.mono ?_
            rintro e w3 ⟨rfl, rfl⟩
            go_wp2_with fail
            go_ret
            have he : ((u : Int) == -(-(u : Int) + 1) + 1) = true := by rw [beq_iff_eq]; omega
            exact ⟨congrArg (fun b => Ending.returned (Value.bool b)) he, FIN.out⟩
          · have hz10' : ((j : Int) + 1 + (nd : Int) != 10) = false := by
              have := HZT.out (by omega)
              simp
              omega
            have hjp : (0 : Int) < (j : Int) := by omega
            go_wp2_with fail
            refine HDEC.out.mono ?_
            rintro e w3 ⟨rfl, rfl⟩
            go_wp2_with fail
            go_ret
            have he : ((u : Int) == -(-(u : Int) + 1) + 1) = true := by rw [beq_iff_eq]; omega
            exact ⟨congrArg (fun b => Ending.returned (Value.bool b)) he, FIN.out⟩

set_option maxHeartbeats 3200000 in
set_option maxRecDepth 100000 in
theorem exact_long (a0 : Option Addr) (len cap : Nat) (i : Int) (w : World) (hn : len ≤ 9223372036854775807) (hl : 1048576 < len) :
    Calls Tryd.prog 3 #[.slice a0 len cap, .int .i64 i] w fun e w' => e = .returned (.bool true) ∧ Below w.heap.size w w' := by
  have hzb := zzBytes_calls a0 len cap i w hn
  have hb20 : decide (len ≤ 1048576) = false := by simp; omega
  rw [hb20] at hzb
  have HZB := Lib.hid hzb
  clear hzb hb20
  go_enter Tryd.func3, Tryd.ntmps3
  go_wp2_with fail
  refine HZB.out.mono ?_
  rintro e w0 ⟨rfl, rfl⟩
  go_wp2_with fail
  go_ret
  exact ⟨rfl, Below.refl _ _⟩

/-- FnAppendKeyExactSpec returns true at every slice of bytes and every int64; nothing old is written. -/
theorem exact_walk (dv : Value) (ds : List UInt8) (i : Int) (h0 : -9223372036854775808 ≤ i) (h1 : i ≤ 9223372036854775807) (w : World) (hI : In dv ds w) (hm : ds.length ≤ 9223372036854775807) (htab : Lib.TabIs Tryd.prog w tabName .u64 Lib.pow10Tab) :
    Calls Tryd.prog 3 #[dv, .int .i64 i] w fun e w' => e = .returned (.bool true) ∧ Below w.heap.size w w' := by
  by_cases hl : ds.length ≤ 1048576
  · by_cases hneg : i < 0
    · obtain ⟨u, rfl⟩ : ∃ u : Nat, i = -(u : Int) := ⟨i.natAbs, by omega⟩
      exact exact_neg dv ds u (by omega) (by omega) w hI hl htab
    · obtain ⟨u, rfl⟩ : ∃ u : Nat, i = u := ⟨i.toNat, by omega⟩
      exact exact_pos dv ds u (by omega) w hI hl htab
  · obtain ⟨a0, cap0, rfl⟩ := hI.form
    exact exact_long a0 ds.length cap0 i w hm (by omega)
end Go.Proofs.Qxb6600810aDoor
