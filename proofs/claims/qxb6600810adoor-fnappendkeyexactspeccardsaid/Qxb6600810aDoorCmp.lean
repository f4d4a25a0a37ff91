/-
  compareBytes, walked.
-/
import Derived.Test.Qxb6600810aDoorKey
import Derived.BigQuiet
import Derived.Deep.QuietTactic
namespace Go.Proofs.Qxb6600810aDoor
open Go.RowKit Go.Sort

/-- How two rows of bytes compare: the first place where they part; else the shorter one first. -/
def cmpL : List UInt8 → List UInt8 → Int
  | [], [] => 0
  | [], _ :: _ => -1
  | _ :: _, [] => 1
  | x :: a, y :: b => if x.toNat < y.toNat then -1 else if y.toNat < x.toNat then 1 else cmpL a b

theorem drop_cons (a : List UInt8) (k : Nat) (h : k < a.length) : a.drop k = a.getD k 0 :: a.drop (k + 1) := by
  rw [List.drop_eq_getElem_cons h]
  simp [List.getD, h]

/-- The bytes of a, read off a block. -/
def Reads (w : World) (g : Nat) (a : List UInt8) : Prop := ∀ j, j < a.length → w.cell? ⟨g, j, none⟩ = some (.int .u8 ((a.getD j 0).toNat : Int))

theorem below_drewN' (B : Nat) (w : World) (k : Nat) : Below B w (w.drewN k) := ⟨rfl, rfl, rfl, Nat.le_refl _, fun _ _ => rfl⟩

theorem cell_lt {w : World} {p : Addr} {v : Value} (h : w.cell? p = some v) : p.block < w.heap.size := by
  rcases Nat.lt_or_ge p.block w.heap.size with h' | h'
  · exact h'
  · unfold World.cell? at h
    rw [Array.getElem?_eq_none h'] at h
    cases h

theorem Reads.on {w w' : World} {g : Nat} {a : List UInt8} (h : Reads w g a) (hb : Below w.heap.size w w') : Reads w' g a := fun j hj => by
  rw [hb.cell (p := ⟨g, j, none⟩) (cell_lt (h j hj))]
  exact h j hj

set_option maxHeartbeats 3200000 in
set_option maxRecDepth 100000 in
theorem compareBytes_calls (a b : List UInt8) (ga ca gb cb la lb : Nat) (hla : a.length = la) (hlb : b.length = lb) (w : World) (ha : Reads w ga a) (hb : Reads w gb b) (hma : la ≤ 9223372036854775807) (_hmb : lb ≤ 9223372036854775807) :
    Calls Tryd.prog 11 #[.slice (some ⟨ga, 0, none⟩) la ca, .slice (some ⟨gb, 0, none⟩) lb cb] w fun e w' => e = .returned (.int .i64 (cmpL a b)) ∧ Below w.heap.size w w' := by
  have HA := Lib.hid ha
  have HB := Lib.hid hb
  have HLA := Lib.hid hla
  have HLB := Lib.hid hlb
  clear ha hb hla hlb
  go_enter Tryd.func11, Tryd.ntmps11
  go_wp2_with fail
  go_loopw [5] (fun i wr => ∃ k : Nat, k ≤ la ∧ k ≤ lb ∧ i = .int .i64 k ∧ Hid (cmpL (a.drop k) (b.drop k) = cmpL a b) ∧ Hid (Below w.heap.size w wr))
    (fun i _ => la - (intOf i).toNat)
  case atStart => exact ⟨0, Nat.zero_le _, Nat.zero_le _, rfl, Lib.hid rfl, Lib.hid (Below.refl _ _)⟩
  case round =>
    obtain ⟨k, hka, hkb, rfl, HK, HW⟩ := hrel
    by_cases hla : k < la
    · by_cases hlb : k < lb
      · have ia : (k : Int) < (la : Int) := by omega
        have ib : (k : Int) < (lb : Int) := by omega
        have hca := HA.out.on HW.out k (by rw [HLA.out]; exact hla)
        have hcb := HB.out.on HW.out k (by rw [HLB.out]; exact hlb)
        obtain ⟨x, hx⟩ : ∃ x, a.getD k 0 = x := ⟨_, rfl⟩
        obtain ⟨y, hy⟩ : ∃ y, b.getD k 0 = y := ⟨_, rfl⟩
        rw [hx] at hca
        rw [hy] at hcb
        have HX := Lib.hid hx
        have HY := Lib.hid hy
        clear hx hy
        have hda := drop_cons a k (by rw [HLA.out]; exact hla)
        have hdb := drop_cons b k (by rw [HLB.out]; exact hlb)
        have hk0 := HK.out
        rw [hda, hdb, HX.out, HY.out, cmpL] at hk0
        have HK0 := Lib.hid hk0
        clear hda hdb hk0
        by_cases hxy : x.toNat < y.toNat
        · go_wp2_with fail
          go_quiet (fail)
          go_wp2_with fail
          go_ret
          refine ⟨?_, HW.out.trans (below_drewN' _ _ _)⟩
          rw [← HK0.out, if_pos hxy]; rfl
        · by_cases hyx : y.toNat < x.toNat
          · go_wp2_with fail
            go_quiet (fail)
            go_wp2_with fail
            go_quiet (fail)
            go_wp2_with fail
            go_ret
            refine ⟨?_, (HW.out.trans (below_drewN' _ _ _)).trans (below_drewN' _ _ _)⟩
            rw [← HK0.out, if_neg hxy, if_pos hyx]; rfl
          · have hk1 := HK0.out
            rw [if_neg hxy, if_neg hyx] at hk1
            have HK1 := Lib.hid hk1
            clear hk1
            go_wp2_with fail
            go_quiet (fail)
            go_wp2_with fail
            go_quiet (fail)
            go_wp2_with fail
            go_roundw
            case rel => exact ⟨k + 1, by omega, by omega, by go_num, HK1, Lib.hid (HW.out.trans (below_drewN' _ _ _))⟩
            case measure => simp only [intOf]; omega
      · have ia : (k : Int) < (la : Int) := by omega
        have ib : decide ((k : Int) < (lb : Int)) = false := by simp; omega
        go_wp2_with fail
        go_ret
        refine ⟨?_, HW.out⟩
        have hda := drop_cons a k (by rw [HLA.out]; exact hla)
        have hdb : b.drop k = [] := List.drop_eq_nil_of_le (by rw [HLB.out]; omega)
        rw [← HK.out, hda, hdb, cmpL]; rfl
    · have ia : decide ((k : Int) < (la : Int)) = false := by simp; omega
      have hda : a.drop k = [] := List.drop_eq_nil_of_le (by rw [HLA.out]; omega)
      have hk0 := HK.out
      rw [hda] at hk0
      have HK0 := Lib.hid hk0
      clear hda hk0
      go_wp2_with fail
      · have hll : la < lb := by assumption
        go_ret
        refine ⟨?_, HW.out⟩
        have hdb := drop_cons b k (by rw [HLB.out]; omega)
        rw [← HK0.out, hdb, cmpL]; rfl
      · have hll : ¬ la < lb := by assumption
        go_ret
        refine ⟨?_, HW.out⟩
        have hdb : b.drop k = [] := List.drop_eq_nil_of_le (by rw [HLB.out]; omega)
        rw [← HK0.out, hdb, cmpL]; rfl
end Go.Proofs.Qxb6600810aDoor
