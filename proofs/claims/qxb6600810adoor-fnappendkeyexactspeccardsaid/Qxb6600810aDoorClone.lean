/-
  zzBytes_FnAppendKeyExactSpec and cloneBytes, walked.
-/
import Derived.Test.Qxb6600810aDoorCmp
import Derived.Laws.CopyRow
import Derived.Laws.IdiomCopy
import Derived.Lib.SliceRun
namespace Go.Proofs.Qxb6600810aDoor
open Go.RowKit Go.Sort

/-- A slice of bytes that came in, and what it holds. -/
def In (dv : Value) (ds : List UInt8) (w : World) : Prop :=
  (dv = .slice none 0 0 ∧ ds = []) ∨ ∃ x cap, dv = .slice (some x) ds.length cap ∧ ∀ j v, (Lib.byteCells ds)[j]? = some v → w.cell? (x.add j) = some v

theorem In.form {dv : Value} {ds : List UInt8} {w : World} (h : In dv ds w) : ∃ a cap, dv = .slice a ds.length cap := by
  rcases h with ⟨rfl, rfl⟩ | ⟨x, cap, rfl, _⟩
  · exact ⟨none, 0, rfl⟩
  · exact ⟨some x, cap, rfl⟩

set_option maxHeartbeats 1600000 in
theorem zzBytes_calls (a : Option Addr) (n cap : Nat) (i : Int) (w : World) (_hn : n ≤ 9223372036854775807) :
    Calls Tryd.prog 7 #[.slice a n cap, .int .i64 i] w fun e w' => e = .returned (.bool (decide (n ≤ 1048576))) ∧ w' = w := by
  by_cases h : n ≤ 1048576
  · go_enter Tryd.func7, Tryd.ntmps7
    go_wp2_with fail
    go_ret
    exact ⟨by simp [h], rfl⟩
  · go_enter Tryd.func7, Tryd.ntmps7
    go_wp2_with fail
    go_ret
    exact ⟨by simp [h], rfl⟩

/-- make, then copy: the new row reads as the old. -/
theorem run_clone (x : Addr) (ds : List UInt8) (cap : Nat) (w : World) (hc : ∀ j v, (Lib.byteCells ds)[j]? = some v → w.cell? (x.add j) = some v) (hlim : ds.length ≤ 1048576) :
    ∃ w1 w2 k, (Instr.makeSlice 22 (.int .i64 (ds.length : Int)) (.int .i64 (ds.length : Int))).run Tryd.prog w = .ok (.slice (some ⟨w.heap.size, 0, none⟩) ds.length ds.length) w1 ∧
      (∀ ty, (Builtin.copy_ #[22, 22] ty #[.slice (some ⟨w.heap.size, 0, none⟩) ds.length ds.length, .slice (some x) ds.length cap]).run Tryd.prog w1 = .ok (goInt k) w2) ∧
      Full (.slice (some ⟨w.heap.size, 0, none⟩) ds.length ds.length) ds w2 ∧ Below w.heap.size w w2 := by
  obtain ⟨i0, hi, hz0, hz1, hz2⟩ := info_parts byteInfo
  obtain ⟨w1, hmk, hown, hg⟩ := run_make_full (P := Tryd.prog) w w.heap.size 22 5 i0 (.int .u8 0) 1 Tryd.underlying22 hi hz0 hz1 .i64 .i64 ds.length (by rw [hz2]; omega) (by unfold maxLen; omega) (Nat.le_refl _)
  have hb1 := below_of_none hg
  have hsz : (Tryd.prog.info? 5).map (·.size) = some 1 := by rw [hi]; simp [hz1]
  rcases hown.2 with ⟨h, _⟩ | ⟨g, cap', cur, hv, hbg, hgc, hnc, hcm, hcs, htake⟩
  · simp at h
  · simp only [Value.slice.injEq, Option.some.injEq, Addr.mk.injEq, and_true, true_and] at hv
    obtain ⟨rfl, rfl⟩ := hv
    rw [Nat.mul_one] at hcs
    have hsrc : ∀ j v, (Lib.byteCells ds)[j]? = some v → w1.cell? (x.add j) = some v := fun j v hj => by
      have h0 := hc j v hj
      rw [hb1.cell (cell_lt h0)]
      exact h0
    have hcp := fun ty => run_copy_row (P := Tryd.prog) w1 22 22 ty 5 w.heap.size 0 ds.length ds.length x ds.length cap cur 5 (Lib.byteCells ds) Tryd.underlying22 hsz hgc (by rw [Lib.byteCells_length]; exact (Nat.min_self _).symm) hsrc (by rw [Lib.byteCells_length]; omega) (by intro u' hu'; simp only [Lib.byteCells, List.mem_map] at hu'; obtain ⟨b, _, rfl⟩ := hu'; rfl)
    refine ⟨w1, _, _, hmk, hcp, .inr ⟨w.heap.size, rfl, ?_, ?_⟩, ?_⟩
    · have : w.heap.size < w1.heap.size := (Array.getElem?_eq_some_iff.1 hgc).1
      simpa [World.setRow] using this
    · intro j u hj
      have hj' : j < (Lib.byteCells ds).length := (List.getElem?_eq_some_iff.1 hj).1
      have hh := setRow_heap w1 w.heap.size cur (cur.toList.take 0 ++ Lib.byteCells ds ++ cur.toList.drop (0 + (Lib.byteCells ds).length)).toArray 5 _ hgc
      unfold World.cell?
      rw [hh]
      simp only [List.take_zero, List.nil_append]
      simp [List.getElem?_append_left hj', hj]
    · exact hb1.trans ⟨rfl, rfl, rfl, by simp [World.setRow], fun k hk => setRow_other w1 _ k _ (by omega)⟩

set_option maxHeartbeats 1600000 in
theorem cloneBytes_calls (dv : Value) (ds : List UInt8) (w : World) (hI : In dv ds w) (hlim : ds.length ≤ 1048576) :
    Calls Tryd.prog 8 #[dv] w fun e w' => ∃ v', e = .returned v' ∧ Full v' ds w' ∧ Below w.heap.size w w' := by
  rcases hI with ⟨rfl, rfl⟩ | ⟨x, cap, rfl, hc⟩
  · have hq := Lib.run_eql_slice_nil (P := Tryd.prog) w 22 5 none 0 0 0 0 Tryd.underlying22
    go_enter Tryd.func8, Tryd.ntmps8
    go_wp2_with fail
    go_ret
    exact ⟨_, rfl, .inl ⟨rfl, rfl⟩, Below.refl _ _⟩
  · have hq := Lib.run_eql_slice_nil (P := Tryd.prog) w 22 5 (some x) ds.length cap 0 0 Tryd.underlying22
    obtain ⟨w1, w2, k, hmk, hcp, hF, hb⟩ := run_clone x ds cap w hc hlim
    have HF := Lib.hid hF
    have HB := Lib.hid hb
    clear hF hb hc
    go_enter Tryd.func8, Tryd.ntmps8
    go_wp2_with fail
    go_ret
    exact ⟨_, rfl, HF.out, HB.out⟩
end Go.Proofs.Qxb6600810aDoor
