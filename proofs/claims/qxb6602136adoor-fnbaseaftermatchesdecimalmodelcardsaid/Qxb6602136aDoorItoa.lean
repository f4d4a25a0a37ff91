/-
  zzItoa, walked: it gives the decimal numeral.
-/
import Derived.Test.Qxb6602136aDoorBase
import Derived.Test.Qxb6602136aDoorDigits
import Derived.Lib.Zigzag
import Derived.Laws.BitsAllLaws
namespace Go.Proofs.Qxb6602136aDoor
open Go.RowKit Go.Sort

theorem nDigits_le : ∀ (k u : Nat), u < 10 ^ (k + 1) → Lib.nDigits u ≤ k + 1
  | 0, u, h => by rw [Lib.nDigits_small (by omega)]; omega
  | k + 1, u, h => by
    by_cases h10 : u < 10
    · rw [Lib.nDigits_small h10]; omega
    · rw [Lib.nDigits_big h10]
      have := nDigits_le k (u / 10) (by rw [Nat.pow_succ] at h; omega)
      omega

/-- An array of twenty bytes in a block. -/
def Arr (w : World) (B : Nat) (a : Nat → UInt8) : Prop := ∀ j, j < 20 → w.cell? ⟨B, j, none⟩ = some (.int .u8 ((a j).toNat : Int)) ∧ w.frozen? ⟨B, j, none⟩ = false

def zeros20 : Array Value := #[.int .u8 0, .int .u8 0, .int .u8 0, .int .u8 0, .int .u8 0, .int .u8 0, .int .u8 0, .int .u8 0, .int .u8 0, .int .u8 0, .int .u8 0, .int .u8 0, .int .u8 0, .int .u8 0, .int .u8 0, .int .u8 0, .int .u8 0, .int .u8 0, .int .u8 0, .int .u8 0]

theorem arr_new (w : World) : Arr (w.alloc (.cells zeros20 35)) w.heap.size (fun _ => 0) := fun j hj => by
  refine ⟨?_, World.frozen?_alloc_new _ _ _ _⟩
  rw [World.cell?_alloc_new]
  have e : zeros20 = Array.replicate 20 (.int .u8 0) := rfl
  rw [e]
  simp [hj]

/-- One byte stored. -/
theorem Arr.set {w : World} {B : Nat} {a : Nat → UInt8} (h : Arr w B a) (k : Nat) (hk : k < 20) (c : UInt8) : Arr (w.setCell ⟨B, k, none⟩ (.int .u8 (c.toNat : Int))) B (fun j => if j = k then c else a j) := fun j hj => by
  refine ⟨?_, by rw [World.frozen?_setCell]; exact (h j hj).2⟩
  by_cases e : j = k
  · subst e
    simp only [if_true]
    exact World.cell?_setCell_same _ _ _ (h j hj).1
  · simp only [if_neg e]
    rw [World.cell?_setCell_other _ _ _ _ (by intro h; cases h; exact e rfl)]
    exact (h j hj).1

/-- What the loop keeps: the last m + .. places hold ds; the digits of u are those of v, then ds. -/
structure Done (w wr : World) (B u v m : Nat) (ds : List UInt8) : Prop where
  digits : Lib.decDigits u = Lib.decDigits v ++ ds
  len : m + ds.length = 20
  row : ∃ a, Arr wr B a ∧ ∀ j, j < ds.length → a (m + j) = ds.getD j 0
  below : Below w.heap.size w wr

theorem Done.step {w wr : World} {B u v m : Nat} {ds : List UInt8} (h : Done w wr B u v (m + 1) ds) (hB : w.heap.size ≤ B) (h10 : ¬ v < 10) :
    Done w (wr.setCell ⟨B, m, none⟩ (.int .u8 (48 + (v : Int) % 10))) B u (v / 10) m (UInt8.ofNat (48 + v % 10) :: ds) := by
  obtain ⟨a, hA, hd⟩ := h.row
  have hl := h.len
  have e := digit_toNat (v % 10) (by omega)
  have ev : (48 + (v : Int) % 10) = ((UInt8.ofNat (48 + v % 10)).toNat : Int) := by rw [e]; omega
  rw [ev]
  refine ⟨?_, by simp; omega, ⟨_, hA.set m (by omega) _, fun j hj => ?_⟩, h.below.setCell hB _⟩
  · rw [h.digits]
    conv => lhs; rw [Lib.decDigits, dif_neg h10]
    simp
  · cases j with
    | zero => simp
    | succ j =>
      have := hd j (by simpa using hj)
      rw [if_neg (by omega), ← Nat.add_assoc, Nat.add_right_comm, this]
      simp

theorem Done.last {w wr : World} {B u v m : Nat} {ds : List UInt8} (h : Done w wr B u v (m + 1) ds) (hB : w.heap.size ≤ B) (h10 : v < 10) :
    ∃ a, Arr (wr.setCell ⟨B, m, none⟩ (.int .u8 (48 + (v : Int) % 10))) B a ∧ m + (Lib.decDigits u).length = 20 ∧ (∀ j, j < (Lib.decDigits u).length → a (m + j) = (Lib.decDigits u).getD j 0) ∧
      Below w.heap.size w (wr.setCell ⟨B, m, none⟩ (.int .u8 (48 + (v : Int) % 10))) := by
  obtain ⟨a, hA, hd⟩ := h.row
  have hl := h.len
  have e := digit_toNat (v % 10) (by omega)
  have ev : (48 + (v : Int) % 10) = ((UInt8.ofNat (48 + v % 10)).toNat : Int) := by rw [e]; omega
  have hu : Lib.decDigits u = UInt8.ofNat (48 + v % 10) :: ds := by
    rw [h.digits, Lib.decDigits_one h10, Nat.mod_eq_of_lt h10]
    rfl
  rw [ev, hu]
  refine ⟨_, hA.set m (by omega) _, by simp; omega, fun j hj => ?_, h.below.setCell hB _⟩
  cases j with
  | zero => simp
  | succ j =>
    have := hd j (by simpa using hj)
    rw [if_neg (by omega), ← Nat.add_assoc, Nat.add_right_comm, this]
    simp

/-- 'buf[m:]', for the walk. -/
theorem run_cut (B m : Nat) (hm : m < 20) (W : World) : (Instr.sliceAt 35 (.pointer (some ⟨B, 0, none⟩)) (some (.int .i64 (m : Int))) none none).run Tryd.prog W = .ok (.slice (some ⟨B, m, none⟩) (20 - m) (20 - m)) W := by
  have hal : Tryd.prog.arrayLen 35 = 20 := by simp [Program.arrayLen, Tryd.underlying35]
  rw [run_sliceAt_array_l W 35 ⟨B, 0, none⟩ (by simp [Program.arrayLen, Program.elem, Tryd.underlying35]) .i64 (m : Int) (by omega) (by rw [hal]; omega)]
  go_simp
  omega

/-- 'string(buf[m:])', for the walk. -/
theorem run_text (B m : Nat) (a : Nat → UInt8) (l : List UInt8) (hl : m + l.length = 20) (W : World) (hA : Arr W B a) (ha : ∀ j, j < l.length → a (m + j) = l.getD j 0) :
    (convert 37 9 (.slice (some ⟨B, m, none⟩) (20 - m) (20 - m))).run Tryd.prog W = .ok (.string ⟨l.toArray⟩) W := by
  have e : 20 - m = l.length := by omega
  rw [e]
  refine run_convert_bytes_back (P := Tryd.prog) W 37 9 5 ⟨B, m, none⟩ l.length l Tryd.underlying37 Tryd.underlying5 Tryd.underlying9 (fun j hj => ?_)
  have h := (hA (m + j) (by omega)).1
  rw [ha j hj] at h
  rw [Lib.add_plain, h]
  simp [List.getD, hj]

/-- '^u' of a negative number's bits. -/
theorem not_neg (u : Nat) (h1 : 1 ≤ u) (h2 : u ≤ 9223372036854775808) : bits .xor .u64 IntKind.u64.max (IntKind.u64.wrap (-(u : Int))) = (u : Int) - 1 := by
  have hmax : IntKind.u64.max = ((18446744073709551615 : Nat) : Int) := by decide
  have hwr : IntKind.u64.wrap (-(u : Int)) = ((18446744073709551616 - u : Nat) : Int) := by rw [IntKind.wrap_u64]; omega
  have hx := Lib.xor_ones64 (18446744073709551616 - u) (by omega)
  rw [hmax, hwr, u64_xor_nat _ _ (by omega) (by omega)]
  have e : (2 ^ 64 - 1 : Nat) = 18446744073709551615 := by decide
  rw [e] at hx
  rw [hx]
  omega

theorem Done.start (w : World) (u : Nat) : Done w (w.alloc (.cells zeros20 35)) w.heap.size u u 20 [] :=
  ⟨by simp, rfl, ⟨_, arr_new w, fun j hj => by simp at hj⟩, (Below.refl _ w).alloc (Nat.le_refl _) _⟩

theorem Done.pos {w wr : World} {B u v m : Nat} {ds : List UInt8} (h : Done w wr B u v m ds) (hu : u < 100000000000000000000) : 1 ≤ m := by
  have h1 := digits_pos v
  have h2 := congrArg List.length h.digits
  rw [List.length_append, Lib.decDigits_length u] at h2
  have h3 := nDigits_le 19 u (by omega)
  have := h.len
  omega

set_option maxHeartbeats 1600000 in
set_option maxRecDepth 100000 in
theorem zzItoa_pos (u : Nat) (hu : u ≤ 9223372036854775807) (w : World) :
    Calls Tryd.prog 13 #[.int .i64 u] w fun e w' => e = .returned (.string ⟨(Lib.decDigits u).toArray⟩) ∧ Below w.heap.size w w' := by
  have HS := Lib.hid (Done.start w u)
  have hneg : decide ((u : Int) < 0) = false := by simp
  go_enter Tryd.func13, Tryd.ntmps13
  go_wp2_with fail
  go_loopw [4, 5] (fun i x wr => ∃ (m v : Nat) (ds : List UInt8), i = .int .i64 (m : Int) ∧ x = .int .u64 (v : Int) ∧ v < 18446744073709551616 ∧ Hid (Done w wr w.heap.size u v m ds))
    (fun i _ _ => (intOf i).toNat)
  case atStart => exact ⟨20, u, [], rfl, rfl, by omega, HS⟩
  case round =>
    obtain ⟨m, v, ds, rfl, rfl, hv, HD⟩ := hrel
    obtain ⟨m, rfl⟩ : ∃ m', m = m' + 1 := ⟨m - 1, by have := HD.out.pos (by omega); omega⟩
    have hm : m < 20 := by have := HD.out.len; omega
    obtain ⟨a, hA, _⟩ := HD.out.row
    obtain ⟨hcell, hfz⟩ := hA m hm
    clear hA
    by_cases h10 : v < 10
    · have hq : ((v : Int) / 10 == 0) = true := by simp; omega
      obtain ⟨a', hA', hlen, hd, hb⟩ := HD.out.last (Nat.le_refl _) h10
      have hcut := fun W => run_cut w.heap.size m hm W
      have htxt := run_text w.heap.size m a' (Lib.decDigits u) hlen _ hA' hd
      have HB := Lib.hid hb
      clear hA' hlen hd hb
      go_wp2_with fail
      go_ret
      exact ⟨rfl, HB.out⟩
    · have hq : ((v : Int) / 10 == 0) = false := by simp; omega
      go_wp2_with fail
      go_roundw
      case rel => exact ⟨m, v / 10, _, rfl, by go_num, by omega, Lib.hid (HD.out.step (Nat.le_refl _) h10)⟩
      case measure => simp only [intOf]; omega
set_option maxHeartbeats 1600000 in
set_option maxRecDepth 100000 in
theorem zzItoa_neg (u : Nat) (hu1 : 1 ≤ u) (hu : u ≤ 9223372036854775808) (w : World) :
    Calls Tryd.prog 13 #[.int .i64 (-(u : Int))] w fun e w' => e = .returned (.string ⟨(45 :: Lib.decDigits u).toArray⟩) ∧ Below w.heap.size w w' := by
  have HS := Lib.hid (Done.start w u)
  have hneg : decide (-(u : Int) < 0) = true := by simp; omega
  go_enter Tryd.func13, Tryd.ntmps13
  have hnot := not_neg u hu1 hu
  have hwu : IntKind.u64.wrap (u : Int) = (u : Int) := by rw [IntKind.wrap_u64]; omega
  go_wp2_with fail
  go_loopw [4, 5] (fun i x wr => ∃ (m v : Nat) (ds : List UInt8), i = .int .i64 (m : Int) ∧ x = .int .u64 (v : Int) ∧ v < 18446744073709551616 ∧ Hid (Done w wr w.heap.size u v m ds))
    (fun i _ _ => (intOf i).toNat)
  case atStart => exact ⟨20, u, [], rfl, by go_num, by omega, HS⟩
  case round =>
    obtain ⟨m, v, ds, rfl, rfl, hv, HD⟩ := hrel
    obtain ⟨m, rfl⟩ : ∃ m', m = m' + 1 := ⟨m - 1, by have := HD.out.pos (by omega); omega⟩
    have hm : m < 20 := by have := HD.out.len; omega
    obtain ⟨a, hA, _⟩ := HD.out.row
    obtain ⟨hcell, hfz⟩ := hA m hm
    clear hA
    by_cases h10 : v < 10
    · have hq : ((v : Int) / 10 == 0) = true := by simp; omega
      obtain ⟨a', hA', hlen, hd, hb⟩ := HD.out.last (Nat.le_refl _) h10
      obtain ⟨m, rfl⟩ : ∃ m', m = m' + 1 := ⟨m - 1, by
        have h3 := nDigits_le 18 u (by omega)
        rw [← Lib.decDigits_length] at h3
        omega⟩
      have hA2 := hA'.set m (by omega) 45
      rw [show (((45 : UInt8).toNat : Nat) : Int) = 45 from rfl] at hA2
      obtain ⟨hcell2, hfz2⟩ := hA' m (by omega)
      have hcut := fun W => run_cut w.heap.size m (by omega) W
      have htxt := run_text w.heap.size m _ (45 :: Lib.decDigits u) (by simp; omega) _ hA2 (fun j hj => by
        cases j with
        | zero => simp
        | succ j =>
          have := hd j (by simpa using hj)
          rw [if_neg (by omega), ← Nat.add_assoc, Nat.add_right_comm, this]
          simp)
      have HB := Lib.hid (hb.setCell (p := ⟨w.heap.size, m, none⟩) (Nat.le_refl _) (.int .u8 45))
      clear hA' hlen hd hb hA2
      go_wp2_with fail
      go_ret
      exact ⟨rfl, HB.out⟩
    · have hq : ((v : Int) / 10 == 0) = false := by simp; omega
      go_wp2_with fail
      go_roundw
      case rel => exact ⟨m, v / 10, _, rfl, by go_num, by omega, Lib.hid (HD.out.step (Nat.le_refl _) h10)⟩
      case measure => simp only [intOf]; omega

/-- zzItoa gives the numeral of every int64. -/
theorem zzItoa_calls (i : Int) (h0 : -9223372036854775808 ≤ i) (h1 : i ≤ 9223372036854775807) (w : World) :
    Calls Tryd.prog 13 #[.int .i64 i] w fun e w' => e = .returned (.string ⟨(Lib.itoa i).toArray⟩) ∧ Below w.heap.size w w' := by
  by_cases hneg : i < 0
  · obtain ⟨u, rfl⟩ : ∃ u : Nat, i = -(u : Int) := ⟨i.natAbs, by omega⟩
    rw [Lib.itoa_neg u (by omega)]
    exact zzItoa_neg u (by omega) (by omega) w
  · obtain ⟨u, rfl⟩ : ∃ u : Nat, i = u := ⟨i.toNat, by omega⟩
    rw [Lib.itoa_nonneg]
    exact zzItoa_pos u (by omega) w
end Go.Proofs.Qxb6602136aDoor
