/-
  append(dst, the four bytes ..) onto a dst without spare: the new slice lies in a block of its own; nothing old is written.
-/
import Derived.Test.Qxb6600810aDoorAppInt
import Derived.ArgAppend
namespace Go.Proofs.Qxb6600810aDoor
open Go.RowKit Go.Sort

/-- The four letters. -/
def userL : List UInt8 := [117, 115, 101, 114]
def userS : ByteArray := ⟨#[117, 115, 101, 114]⟩

/-- A slice of bytes without spare capacity, and what it holds. -/
def Full (dv : Value) (ds : List UInt8) (W : World) : Prop :=
  (dv = .slice none 0 0 ∧ ds = []) ∨ ∃ g, dv = .slice (some ⟨g, 0, none⟩) ds.length ds.length ∧ g < W.heap.size ∧ ∀ j u, (Lib.byteCells ds)[j]? = some u → W.cell? ⟨g, j, none⟩ = some u

theorem Full.on {dv : Value} {ds : List UInt8} {W W' : World} (h : Full dv ds W) (hb : Below W.heap.size W W') : Full dv ds W' := by
  rcases h with h | ⟨g, hv, hg, hc⟩
  · exact .inl h
  · exact .inr ⟨g, hv, Nat.lt_of_lt_of_le hg hb.size, fun j u hj => by rw [← hc j u hj]; exact hb.cell (p := ⟨g, j, none⟩) hg⟩

theorem run_user (dv : Value) (ds : List UInt8) (W : World) (hF : Full dv ds W) (hlim : ds.length + 4 ≤ 140737488355328) :
    ∃ v' w', (Builtin.append_ #[22, 9] 22 #[dv, .string userS]).run Tryd.prog W = .ok v' w' ∧ w'.ownsRow W.heap.size 5 1 v' (ds.length + 4) (Lib.byteCells (ds ++ userL)) ∧ W.grownBy w' none := by
  obtain ⟨i0, hi, hz0, hz1, hz2⟩ := info_parts byteInfo
  have hus : userS.size = 4 := rfl
  have huc : Lib.strCells userS = Lib.byteCells userL := rfl
  rcases hF with ⟨rfl, rfl⟩ | ⟨g, rfl, hg, hc⟩
  · obtain ⟨v', w', hr, h2, h3, _⟩ := Lib.run_append_own_string (P := Tryd.prog) W W.heap.size 22 9 22 5 i0 Tryd.underlying22 Tryd.underlying9 hi hz0 hz1 hz2 (.slice none 0 0) 0 [] (World.ownsRow_nil W _ 5 1) userS (by rw [hus]; decide) (by rw [hus]; decide) (Nat.le_refl _)
    exact ⟨v', w', hr, by simpa [hus, huc] using h2, h3⟩
  · have hfit := growslice_fits (need := ds.length + 4) (old := ds.length) (bytes := 1) (by omega) (by omega)
    have hr := Lib.run_append_grow_string (P := Tryd.prog) W 22 9 22 5 i0 (.int .u8 0) Tryd.underlying22 Tryd.underlying9 hi hz0 ⟨g, 0, none⟩ ds.length ds.length (Lib.byteCells ds) (by rw [hz1, Nat.mul_one, Lib.byteCells_length]) (fun j v hj => by rw [Lib.add_plain, Nat.zero_add]; exact hc j v hj) userS (by rw [hus]; omega) (by rw [hus]; omega) (by rw [hus, hz2]; exact hfit)
    rw [hus] at hr
    have hge := grownCap_ge W (ds.length + 4) ds.length 5
    have hcm : grownCap W (ds.length + 4) ds.length 5 ≤ maxLen := grownCap_le_maxLen W (ds.length + 4) ds.length 5 (by unfold maxLen; omega)
    refine ⟨_, _, hr, ⟨?_, .inr ⟨W.heap.size, _, _, rfl, Nat.le_refl _, heap_alloc_new W.drew _, hge, hcm, ?_, ?_⟩⟩, ?_⟩
    · rw [Lib.byteCells_length, List.length_append, Nat.mul_one]; rfl
    · rw [huc]
      simp only [Array.size_append, List.size_toArray, size_zeroCells, Lib.byteCells_length]
      have e1 : (Value.int IntKind.u8 0).cells.size = 1 := rfl
      have e2 : userL.length = 4 := rfl
      rw [e1, e2]
      omega
    · rw [huc]
      have e : (ds.length + 4) * 1 = (Lib.byteCells (ds ++ userL)).length := by rw [Lib.byteCells_length, List.length_append, Nat.mul_one]; rfl
      rw [e, Lib.byteCells_append]
      simp only [Array.toList_append]
      exact List.take_left
    · have h := World.grownBy_alloc W.drew (.cells ((Lib.byteCells ds).toArray ++ (Lib.strCells userS).toArray ++ Builtin.zeroCells (Value.int IntKind.u8 0).cells (grownCap W (ds.length + 4) ds.length 5 - (ds.length + 4))) 5) none
      exact ⟨h.os, h.tape, h.output, h.size, h.block⟩
end Go.Proofs.Qxb6600810aDoor
