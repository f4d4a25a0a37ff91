/-
  appendKey, walked.
-/
import Derived.Test.Qxb6600810aDoorUser
namespace Go.Proofs.Qxb6600810aDoor
open Go.RowKit Go.Sort

/-- The key's tail: zeros up to ten bytes, then the numeral. -/
def tailL (i : Int) : List UInt8 := List.replicate (10 - (Lib.itoa i).length) 48 ++ Lib.itoa i
def keyL (i : Int) : List UInt8 := userL ++ tailL i

def zeros20 : Array Value := #[.int .u8 0, .int .u8 0, .int .u8 0, .int .u8 0, .int .u8 0, .int .u8 0, .int .u8 0, .int .u8 0, .int .u8 0, .int .u8 0, .int .u8 0, .int .u8 0, .int .u8 0, .int .u8 0, .int .u8 0, .int .u8 0, .int .u8 0, .int .u8 0, .int .u8 0, .int .u8 0]

theorem owns_buf (w : World) : (w.alloc (.cells zeros20 39)).ownsRow w.heap.size 39 1 (.slice (some ⟨w.heap.size, 0, none⟩) 0 20) 0 [] :=
  ⟨rfl, .inr ⟨w.heap.size, 20, zeros20, rfl, Nat.le_refl _, heap_alloc_new w _, by decide, by decide, rfl, rfl⟩⟩

theorem owns_base {w : World} {B B' : Nat} {e : TypeId} {s : Nat} {v : Value} {n : Nat} {xs : List Value} (h : w.ownsRow B e s v n xs) (hB : B' ≤ B) : w.ownsRow B' e s v n xs := by
  obtain ⟨h1, h2 | ⟨g, cap, cur, a, b, c⟩⟩ := h
  · exact ⟨h1, .inl h2⟩
  · exact ⟨h1, .inr ⟨g, cap, cur, a, by omega, c⟩⟩

theorem owns_below {w w' : World} {B C : Nat} {e : TypeId} {s : Nat} {v : Value} {n : Nat} {xs : List Value} (h : w.ownsRow B e s v n xs) (hb : Below C w w') (hlt : ∀ k, v.ownBlock = some k → k < C) : w'.ownsRow B e s v n xs := by
  obtain ⟨h1, h2 | ⟨g, cap, cur, a, b, c, d⟩⟩ := h
  · exact ⟨h1, .inl h2⟩
  · exact ⟨h1, .inr ⟨g, cap, cur, a, b, by rw [hb.block g (hlt g (by rw [a]; rfl))]; exact c, d⟩⟩

theorem below_less {w w' : World} {B B' : Nat} (h : Below B w w') (hB : B' ≤ B) : Below B' w w' :=
  ⟨h.os, h.tape, h.output, h.size, fun k hk => h.block k (by omega)⟩

theorem below_of_none {w w' : World} (h : w.grownBy w' none) : Below w.heap.size w w' :=
  ⟨h.os, h.tape, h.output, h.size, fun k hk => h.block k hk (by simp)⟩

set_option maxHeartbeats 3200000 in
set_option maxRecDepth 100000 in
theorem appendKey_calls (dv : Value) (ds : List UInt8) (i : Int) (h0 : -9223372036854775808 ≤ i) (h1 : i ≤ 9223372036854775807) (w : World) (hF : Full dv ds w) (hlim : ds.length + 100 ≤ 140737488355328)
    (htab : Lib.TabIs Tryd.prog w tabName .u64 Lib.pow10Tab) :
    Calls Tryd.prog 19 #[dv, .int .i64 i] w fun e w' => ∃ v', e = .returned v' ∧ w'.ownsRow w.heap.size 5 1 v' (ds ++ keyL i).length (Lib.byteCells (ds ++ keyL i)) ∧ Below w.heap.size w w' := by
  obtain ⟨i0, hi, hz0, hz1, hz2⟩ := info_parts byteInfo
  have hsl : ∀ W, (Instr.sliceAt 39 (.pointer (some ⟨w.heap.size, 0, none⟩)) none (some (.int .i64 0)) none).run Tryd.prog W = .ok (.slice (some ⟨w.heap.size, 0, none⟩) 0 20) W := fun W => by
    rw [run_sliceAt_array_h W 39 ⟨w.heap.size, 0, none⟩ (by simp [Program.arrayLen, Program.elem, Tryd.underlying39]) .i64 0 (by omega) (by omega)]
    go_simp
  have hT := Lib.tabBelow_of_tabIs htab
  have hbA : Below w.heap.size w (w.alloc (.cells zeros20 39)) := below_of_none (World.grownBy_alloc w _ none)
  have hc := appInt w.heap.size 39 i h0 h1 w.heap.size 20 (w.alloc (.cells zeros20 39)) (owns_buf w) (Nat.le_refl _) hbA.size (Nat.le_refl _) (hT.on hbA)
  have hlen := itoa_len i h0 h1
  obtain ⟨l, hl⟩ : ∃ l, l = Lib.itoa i := ⟨_, rfl⟩
  unfold keyL tailL
  rw [← hl] at hc hlen ⊢
  have HC := Lib.hid hc
  have HF := Lib.hid hF
  have HA := Lib.hid hbA
  clear hc hl htab hT hF hbA
  go_enter Tryd.func19, Tryd.ntmps19
  go_wp2_with fail
  refine HC.out.mono ?_
  rintro e w1 ⟨rfl, hown1, hg1⟩
  have hb1 : Below w.heap.size w w1 := HA.out.trans (below_of_grownBy hg1 HA.out.size (Nat.le_refl _))
  obtain ⟨v2, w2, hrun2, hown2, hg2⟩ := run_user dv ds w1 (HF.out.on hb1) (by omega)
  have hb2 := below_of_none hg2
  have hdl : w.heap.size < w1.heap.size := by
    have := hg1.size
    simp at this
    omega
  have HR2 := Lib.hid hrun2
  have HO2 := Lib.hid hown2
  have HD := Lib.hid hown1
  have HB1 := Lib.hid hb1
  have HB2 := Lib.hid hb2
  clear hrun2 hown2 hb1 hb2 hown1 hg1 hg2 HC HF HA hsl
  go_wp2_with (at_builtin; refine wpList_append_told _ rfl _ _ 22 9 rfl _ _ _ _ rfl rfl HR2.out ?_)
  go_loopw [0, 15] (fun v i' wr => ∃ k : Nat, k ≤ 10 - l.length ∧ i' = .int .i64 k ∧ Hid (wr.ownsRow w1.heap.size 5 1 v (ds.length + 4 + k) (Lib.byteCells (ds ++ userL ++ List.replicate k 48))) ∧ Hid (Below w1.heap.size w1 wr))
    (fun _ i' _ => 10 - l.length - (intOf i').toNat)
  case atStart => exact ⟨0, Nat.zero_le _, rfl, by simpa using HO2, HB2⟩
  case round =>
    obtain ⟨k, hk, rfl, HO, HB⟩ := hrel
    by_cases hlt : k < 10 - l.length
    · have hlt' : (k : Int) < 10 - (l.length : Int) := by omega
      have hBw : w1.heap.size ≤ wr.heap.size := HB.out.size
      obtain ⟨v3, w3, hrun3, hown3, hg3, _⟩ := run_append_own (P := Tryd.prog) (wr.alloc (.cells #[.int .u8 48] 5)) w1.heap.size 22 22 5 i0 (.int .u8 0) 1 1 Tryd.underlying22 hi hz0 hz1 hz2 rfl (by decide) _ _ _ (HO.out.alloc _) ⟨wr.heap.size, 0, none⟩ 1 1 [.int .u8 48] rfl (by intro j u' hj; match j, hj with | 0, hj => simp at hj; subst hj; simp [Addr.add]) (by intro u' hu'; simp at hu'; subst hu'; rfl) (by unfold maxLen; omega) (by omega) (by simp; omega)
      have hb3 : Below w1.heap.size w1 w3 := (HB.out.alloc hBw _).grown hg3 (by simp; omega) (fun k hk => (HO.out.lt k hk).1)
      have HR3 := Lib.hid hrun3
      have HO3 := Lib.hid hown3
      have HB3 := Lib.hid hb3
      clear hrun3 hown3 hg3 hb3
      go_wp2_with (at_builtin; refine wpList_append_told _ rfl _ _ 22 22 rfl _ _ _ _ rfl rfl HR3.out ?_)
      go_roundw
      case rel =>
        refine ⟨k + 1, by omega, by go_num, ?_, HB3⟩
        have e1 : Lib.byteCells (ds ++ userL ++ List.replicate k 48) ++ [Value.int .u8 48] = Lib.byteCells (ds ++ userL ++ List.replicate (k + 1) 48) := by
          rw [List.replicate_succ', ← List.append_assoc, Lib.byteCells_append (ds ++ userL ++ List.replicate k 48)]
          rfl
        have h3 := HO3.out
        rw [e1] at h3
        exact h3
      case measure => simp only [intOf]; omega
    · have hge : ¬ (k : Int) < 10 - (l.length : Int) := by omega
      have hBw : w1.heap.size ≤ wr.heap.size := HB.out.size
      have hdig : wr.ownsRow w.heap.size 39 1 (.slice (some ⟨w.heap.size, 0, none⟩) l.length 20) l.length (Lib.byteCells l) := owns_below HD.out HB.out (fun k hk => by cases hk; exact hdl)
      obtain ⟨v3, w3, hrun3, hown3, hg3, _⟩ := run_append_own (P := Tryd.prog) wr w1.heap.size 22 22 5 i0 (.int .u8 0) 1 1 Tryd.underlying22 hi hz0 hz1 hz2 rfl (by decide) _ _ _ HO.out ⟨w.heap.size, 0, none⟩ l.length 20 (Lib.byteCells l) (by rw [Lib.byteCells_length, Nat.mul_one]) (fun j u hj => hdig.cells (g := w.heap.size) rfl j u hj) (by intro u' hu'; simp only [Lib.byteCells, List.mem_map] at hu'; obtain ⟨b, _, rfl⟩ := hu'; rfl) (by unfold maxLen; omega) (by omega) hBw
      have hb3 : Below w1.heap.size w1 w3 := HB.out.grown hg3 hBw (fun k hk => (HO.out.lt k hk).1)
      have HR3 := Lib.hid hrun3
      have HO3 := Lib.hid hown3
      have HB3 := Lib.hid hb3
      clear hrun3 hown3 hg3 hb3 hdig
      go_wp2_with (at_builtin; refine wpList_append_told _ rfl _ _ 22 22 rfl _ _ _ _ rfl rfl HR3.out ?_)
      go_ret
      refine ⟨v3, rfl, ?_, HB1.out.trans (below_less HB3.out (by omega))⟩
      have hkk : k = 10 - l.length := by omega
      have h3 := owns_base HO3.out (B' := w.heap.size) (by omega)
      rw [hkk, ← Lib.byteCells_append] at h3
      have e2 : ds ++ userL ++ List.replicate (10 - l.length) 48 ++ l = ds ++ (userL ++ (List.replicate (10 - l.length) 48 ++ l)) := by simp
      have e3 : ds.length + 4 + (10 - l.length) + l.length = ds.length + (userL.length + (10 - l.length + l.length)) := by simp [userL]; omega
      rw [e2, e3] at h3
      exact h3

set_option maxHeartbeats 3200000 in
theorem zzAppendKey_calls (dv : Value) (ds : List UInt8) (i : Int) (h0 : -9223372036854775808 ≤ i) (h1 : i ≤ 9223372036854775807) (w : World) (hF : Full dv ds w) (hlim : ds.length + 100 ≤ 140737488355328)
    (htab : Lib.TabIs Tryd.prog w tabName .u64 Lib.pow10Tab) :
    Calls Tryd.prog 9 #[dv, .int .i64 i] w fun e w' => ∃ v', e = .returned v' ∧ w'.ownsRow w.heap.size 5 1 v' (ds ++ keyL i).length (Lib.byteCells (ds ++ keyL i)) ∧ Below w.heap.size w w' := by
  have HC := Lib.hid (appendKey_calls dv ds i h0 h1 w hF hlim htab)
  obtain ⟨l, hl⟩ : ∃ l, l = ds ++ keyL i := ⟨_, rfl⟩
  rw [← hl] at HC ⊢
  clear hF htab hl
  go_enter Tryd.func9, Tryd.ntmps9
  go_wp2_with fail
  refine HC.out.mono ?_
  rintro e w2 ⟨v2, rfl, hown2, hb2⟩
  have HO := Lib.hid hown2
  have HB := Lib.hid hb2
  clear hown2 hb2
  go_wp2_with fail
  go_ret
  exact ⟨v2, rfl, HO.out, HB.out⟩
end Go.Proofs.Qxb6600810aDoor
