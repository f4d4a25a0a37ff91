/-
  pad20 and numberOf, walked; FnNumberOfReadsBackThePaddedNumber, walked.
-/
import Derived.Test.Qxb6001712aDoorRows
import Derived.Test.Qxb6001712aDoorShelf
import Derived.Test.Qxb6001712aDoorDigits
import Derived.Lib.Strings
import Derived.Lib.Hide
import Derived.Lib.ParseIntB
import Derived.Lib.AtoiErrMem
import Derived.Lib.AppendIntMem
import Derived.WalkKit
import Derived.WalkSpells
import Derived.WalkLawsBesides
import Derived.BigQuiet
import Derived.Deep.QuietTactic
namespace Go.Proofs.Qxb6001712aDoor
open Go.RowKit Go.Sort

theorem below_less {w w' : World} {B B' : Nat} (h : Below B w w') (hB : B' ≤ B) : Below B' w w' :=
  ⟨h.os, h.tape, h.output, h.size, fun k hk => h.block k (by omega)⟩

theorem below_then {a b c : World} (h : Below a.heap.size a b) (k : Below b.heap.size b c) : Below a.heap.size a c := h.trans (below_less k h.size)

theorem below_drewN' (B : Nat) (w : World) (k : Nat) : Below B w (w.drewN k) := ⟨rfl, rfl, rfl, Nat.le_refl _, fun _ _ => rfl⟩

theorem cutPrefix_calls (s p : ByteArray) (w : World) :
    Calls Tryd.prog 16 #[.string s, .string p] w fun e w' => e = .returned (.tuple #[.string ⟨(Lib.trimPrefix s.data.toList p.data.toList).toArray⟩, .bool (Lib.hasPrefix s.data.toList p.data.toList)]) ∧ w' = w :=
  Any.strings_CutPrefix (ρ := Tryd.lays103_ren) Tryd.lays103 s p w

/-- An array of twenty bytes in a block. -/
def Arr (w : World) (B : Nat) (a : Nat → UInt8) : Prop := ∀ j, j < 20 → w.cell? ⟨B, j, none⟩ = some (.int .u8 ((a j).toNat : Int)) ∧ w.frozen? ⟨B, j, none⟩ = false

def zeros20 : Array Value := #[.int .u8 0, .int .u8 0, .int .u8 0, .int .u8 0, .int .u8 0, .int .u8 0, .int .u8 0, .int .u8 0, .int .u8 0, .int .u8 0, .int .u8 0, .int .u8 0, .int .u8 0, .int .u8 0, .int .u8 0, .int .u8 0, .int .u8 0, .int .u8 0, .int .u8 0, .int .u8 0]

theorem arr_new (w : World) : Arr (w.alloc (.cells zeros20 31)) w.heap.size (fun _ => 0) := fun j hj => by
  refine ⟨?_, World.frozen?_alloc_new _ _ _ _⟩
  rw [World.cell?_alloc_new]
  have e : zeros20 = Array.replicate 20 (.int .u8 0) := rfl
  rw [e]
  simp [hj]

/-- One byte stored. -/
theorem Arr.set {w : World} {B : Nat} {a : Nat → UInt8} (h : Arr w B a) (k : Nat) (hk : k < 20) (c : UInt8) : Arr (w.setCell ⟨B, k, none⟩ (.int .u8 (c.toNat : Int))) B (fun j => if j = k then c else a j) := fun j hj => by
  refine ⟨?_, by rw [World.frozen?_setCell]; exact (h j hj).2⟩
  by_cases e : j = k
  · subst e
    simp only [if_true]
    exact World.cell?_setCell_same _ _ _ (h j hj).1
  · simp only [if_neg e]
    rw [World.cell?_setCell_other _ _ _ _ (by intro h; cases h; exact e rfl)]
    exact (h j hj).1

/-- 'string(buf[m:])', for the walk. -/
theorem run_text (B m : Nat) (a : Nat → UInt8) (l : List UInt8) (hl : m + l.length = 20) (W : World) (hA : Arr W B a) (ha : ∀ j, j < l.length → a (m + j) = l.getD j 0) :
    (convert 32 9 (.slice (some ⟨B, m, none⟩) (20 - m) (20 - m))).run Tryd.prog W = .ok (.string ⟨l.toArray⟩) W := by
  have e : 20 - m = l.length := by omega
  rw [e]
  refine run_convert_bytes_back (P := Tryd.prog) W 32 9 5 ⟨B, m, none⟩ l.length l Tryd.underlying32 Tryd.underlying5 Tryd.underlying9 (fun j hj => ?_)
  have h := (hA (m + j) (by omega)).1
  rw [ha j hj] at h
  rw [Lib.add_plain, h]
  simp [List.getD, hj]

theorem foldl_dval : ∀ (p : List UInt8) (v : Nat), p.foldl (fun v c => v * 10 + (c.toNat - 48)) v = v * 10 ^ p.length + dval p
  | [], v => by simp [dval]
  | x :: p, v => by
    have h1 := foldl_dval p (v * 10 + (x.toNat - 48))
    have h2 := foldl_dval p (0 * 10 + (x.toNat - 48))
    rw [List.foldl_cons, h1]
    have e : dval (x :: p) = (0 * 10 + (x.toNat - 48)) * 10 ^ p.length + dval p := by rw [← h2]; rfl
    rw [e, List.length_cons, Nat.pow_succ, Nat.add_mul, Nat.zero_mul, Nat.zero_add, Nat.mul_assoc, Nat.mul_comm 10 (10 ^ p.length)]
    omega

theorem dval_cons (x : UInt8) (p : List UInt8) : dval (x :: p) = (x.toNat - 48) * 10 ^ p.length + dval p := by
  have h := foldl_dval p (0 * 10 + (x.toNat - 48))
  rw [Nat.zero_mul, Nat.zero_add] at h
  rw [← h]
  simp [dval]

def IsDigits (p : List UInt8) : Prop := ∀ c ∈ p, 48 ≤ c.toNat ∧ c.toNat ≤ 57

theorem dval_lt : ∀ (p : List UInt8), IsDigits p → dval p < 10 ^ p.length
  | [], _ => by simp [dval]
  | x :: p, h => by
    have h1 := dval_lt p (fun c hc => h c (List.mem_cons_of_mem _ hc))
    have h2 := h x List.mem_cons_self
    rw [dval_cons, List.length_cons, Nat.pow_succ]
    have : (x.toNat - 48) * 10 ^ p.length ≤ 9 * 10 ^ p.length := Nat.mul_le_mul_right _ (by omega)
    omega

/-- What the parse of a row of digits comes to, where the number fits. -/
theorem parseM_digits : ∀ (l : List UInt8) (acc : Nat), IsDigits l → acc * 10 ^ l.length + dval l ≤ 18446744073709551615 →
    Lib.parseUintM 18446744073709551615 acc l = .ok (acc * 10 ^ l.length + dval l)
  | [], acc, _, _ => by simp [Lib.parseUintM, dval]
  | c :: r, acc, hd, hle => by
    have hc := hd c List.mem_cons_self
    have hr : IsDigits r := fun x hx => hd x (List.mem_cons_of_mem _ hx)
    have e : acc * 10 ^ (c :: r).length + dval (c :: r) = (acc * 10 + (c.toNat - 48)) * 10 ^ r.length + dval r := by
      rw [dval_cons, List.length_cons, Nat.pow_succ, Nat.add_mul, Nat.mul_assoc, Nat.mul_comm 10 (10 ^ r.length)]
      omega
    rw [e] at hle ⊢
    have hpos : 1 ≤ 10 ^ r.length := Nat.pos_of_ne_zero (by simp)
    have h1 : acc * 10 + (c.toNat - 48) ≤ (acc * 10 + (c.toNat - 48)) * 10 ^ r.length := Nat.le_mul_of_pos_right _ hpos
    rw [Lib.parseUintM, if_pos hc, if_neg (by omega), if_neg (by omega)]
    exact parseM_digits r _ hr hle

theorem parseU_digits (l : List UInt8) (hne : l ≠ []) (hd : IsDigits l) (hle : dval l ≤ 18446744073709551615) : Lib.parseUintB 64 l = .ok (dval l) := by
  unfold Lib.parseUintB
  rw [if_neg hne]
  have h := parseM_digits l 0 hd (by omega)
  rw [Nat.zero_mul, Nat.zero_add] at h
  exact h

theorem hasPrefix_self (p d : List UInt8) : Lib.hasPrefix (p ++ d) p = true := by
  unfold Lib.hasPrefix
  rw [List.isPrefixOf_iff_prefix]
  exact List.prefix_append p d

/-- The k lowest decimal digits of n, leading zeros and all. -/
def padK (n : Nat) : Nat → List UInt8
  | 0 => []
  | k + 1 => padK (n / 10) k ++ [UInt8.ofNat (48 + n % 10)]

theorem padK_length : ∀ (k n : Nat), (padK n k).length = k
  | 0, _ => rfl
  | k + 1, n => by simp [padK, padK_length k]

theorem padK_digits : ∀ (k n : Nat), IsDigits (padK n k)
  | 0, _ => fun c hc => by simp [padK] at hc
  | k + 1, n => fun c hc => by
    have e := digit_toNat (n % 10) (by omega)
    rcases List.mem_append.1 hc with h | h
    · exact padK_digits k (n / 10) c h
    · simp only [List.mem_singleton] at h
      subst h
      omega

theorem padK_dval : ∀ (k n : Nat), n < 10 ^ k → dval (padK n k) = n
  | 0, n, h => by simp at h; subst h; rfl
  | k + 1, n, h => by
    have e := digit_toNat (n % 10) (by omega)
    rw [padK, dval_snoc, padK_dval k (n / 10) (by rw [Nat.pow_succ] at h; omega), e]
    omega

/-- ParseUint reads the padded numeral back. -/
theorem parse_pad (n : Nat) (h : n < 18446744073709551616) : Lib.parseUintB 64 (padK n 20) = .ok n := by
  have hd := padK_dval 20 n (by omega)
  have := parseU_digits (padK n 20) (by intro e; have := padK_length 20 n; rw [e] at this; simp at this) (padK_digits 20 n) (by omega)
  rw [hd] at this
  exact this

/-- What the loop keeps. -/
structure Done (w wr : World) (B n v m : Nat) (ds : List UInt8) : Prop where
  digits : padK n 20 = padK v m ++ ds
  len : m + ds.length = 20
  row : ∃ a, Arr wr B a ∧ ∀ j, j < ds.length → a (m + j) = ds.getD j 0
  below : Below w.heap.size w wr

theorem Done.step {w wr : World} {B n v m : Nat} {ds : List UInt8} (h : Done w wr B n v (m + 1) ds) (hB : w.heap.size ≤ B) :
    Done w (wr.setCell ⟨B, m, none⟩ (.int .u8 (48 + (v : Int) % 10))) B n (v / 10) m (UInt8.ofNat (48 + v % 10) :: ds) := by
  obtain ⟨a, hA, hd⟩ := h.row
  have hl := h.len
  have e := digit_toNat (v % 10) (by omega)
  have ev : (48 + (v : Int) % 10) = ((UInt8.ofNat (48 + v % 10)).toNat : Int) := by rw [e]; omega
  rw [ev]
  refine ⟨?_, by simp; omega, ⟨_, hA.set m (by omega) _, fun j hj => ?_⟩, h.below.setCell hB _⟩
  · rw [h.digits, padK]
    simp
  · cases j with
    | zero => simp
    | succ j =>
      have := hd j (by simpa using hj)
      rw [if_neg (by omega), ← Nat.add_assoc, Nat.add_right_comm, this]
      simp

theorem Done.start (w : World) (n : Nat) : Done w (w.alloc (.cells zeros20 31)) w.heap.size n n 20 [] :=
  ⟨by simp, rfl, ⟨_, arr_new w, fun j hj => by simp at hj⟩, (Below.refl _ w).alloc (Nat.le_refl _) _⟩

theorem run_whole (B : Nat) (W : World) : (Instr.sliceAt 31 (.pointer (some ⟨B, 0, none⟩)) none none none).run Tryd.prog W = .ok (.slice (some ⟨B, 0, none⟩) 20 20) W := by
  rw [run_sliceAt_array_all W 31 ⟨B, 0, none⟩ (by simp [Program.arrayLen, Program.elem, Tryd.underlying31])]
  have hal : Tryd.prog.arrayLen 31 = 20 := by simp [Program.arrayLen, Tryd.underlying31]
  go_simp

set_option maxHeartbeats 1600000 in
set_option maxRecDepth 100000 in
theorem pad20_calls (n : Nat) (hn : n < 18446744073709551616) (w : World) :
    Calls Tryd.prog 7 #[.int .u64 n] w fun e w' => e = .returned (.string ⟨(padK n 20).toArray⟩) ∧ Below w.heap.size w w' := by
  have HS := Lib.hid (Done.start w n)
  go_enter Tryd.func7, Tryd.ntmps7
  go_wp2_with fail
  go_loopw [0, 4] (fun x i wr => ∃ (v : Nat) (ds : List UInt8), v < 18446744073709551616 ∧ x = .int .u64 (v : Int) ∧ ((∃ m : Nat, i = .int .i64 (m : Int) ∧ Hid (Done w wr w.heap.size n v (m + 1) ds)) ∨ (i = .int .i64 (-1) ∧ Hid (Done w wr w.heap.size n v 0 ds))))
    (fun _ i _ => ((intOf i) + 1).toNat)
  case atStart => exact ⟨n, [], hn, rfl, .inl ⟨19, rfl, HS⟩⟩
  case round =>
    obtain ⟨v, ds, hv, rfl, hcase⟩ := hrel
    rcases hcase with ⟨m, rfl, HD⟩ | ⟨rfl, HD⟩
    · have hm : m < 20 := by have := HD.out.len; omega
      obtain ⟨a, hA, _⟩ := HD.out.row
      obtain ⟨hcell, hfz⟩ := hA m hm
      have HN := Lib.hid (HD.out.step (Nat.le_refl _))
      clear hA
      cases m with
      | zero =>
        go_wp2_with fail
        go_roundw
        case rel => exact ⟨v / 10, _, by omega, by go_num, .inr ⟨rfl, HN⟩⟩
        case measure => simp only [intOf]; omega
      | succ m =>
        go_wp2_with fail
        go_roundw
        case rel => exact ⟨v / 10, _, by omega, by go_num, .inl ⟨m, rfl, HN⟩⟩
        case measure => simp only [intOf]; omega
    · obtain ⟨a, hA, hd⟩ := HD.out.row
      have hlen := HD.out.len
      have hdig := HD.out.digits
      have htxt := run_text w.heap.size 0 a ds hlen _ hA hd
      have hcut := fun W => run_whole w.heap.size W
      have HB := Lib.hid HD.out.below
      rw [padK, List.nil_append] at hdig
      have HG := Lib.hid hdig
      clear hA hd hlen hdig
      go_wp2_with fail
      go_ret
      refine ⟨?_, HB.out⟩
      rw [HG.out]
      rfl

theorem parseUint_calls (s : ByteArray) (hmax : s.size ≤ 9223372036854775806) (u : Nat) (h : Lib.parseUintB 64 s.data.toList = .ok u) (w : World) :
    Calls Tryd.prog 17 #[.string s, .int .i64 10, .int .i64 64] w fun e w' => e = .returned (.tuple #[.int .u64 u, .nilIface]) ∧ Below w.heap.size w w' := by
  refine (Any.strconv_ParseUint_10_at64_ok (ρ := Tryd.laysPu14_ren) Tryd.laysPu14 s hmax u h w).mono ?_
  rintro e w' ⟨rfl, hw⟩
  refine ⟨rfl, ?_⟩
  rcases hw with rfl | rfl
  · exact Below.refl _ _
  · exact Lib.bytesWorld_below _ _ _

theorem trim_self (p d : List UInt8) : Lib.trimPrefix (p ++ d) p = d := by
  unfold Lib.trimPrefix
  rw [if_pos (hasPrefix_self p d), List.drop_left]

set_option maxHeartbeats 1600000 in
set_option maxRecDepth 100000 in
theorem numberOf_calls (s p : ByteArray) (n : Nat) (hn : n < 18446744073709551616) (hs : s.data.toList = p.data.toList ++ padK n 20) (w : World) :
    Calls Tryd.prog 14 #[.string s, .string p] w fun e w' => e = .returned (.tuple #[.int .u64 n, .bool true]) ∧ Below w.heap.size w w' := by
  have hcut := cutPrefix_calls s p w
  rw [hs, trim_self, hasPrefix_self] at hcut
  have hlen := padK_length 20 n
  have hparse := parse_pad n hn
  generalize padK n 20 = d at hcut hlen hparse
  have hsz : (⟨d.toArray⟩ : ByteArray).size = 20 := by rw [Lib.size_eq]; simp [hlen]
  have hpu := parseUint_calls ⟨d.toArray⟩ (by rw [hsz]; omega) n hparse w
  have HCUT := Lib.hid hcut
  have HPU := Lib.hid hpu
  clear hcut hparse hpu hs
  go_enter Tryd.func14, Tryd.ntmps14
  go_wp2_with fail
  refine HCUT.out.mono ?_
  rintro e w1 ⟨rfl, rfl⟩
  go_wp2_with fail
  refine HPU.out.mono ?_
  rintro e w2 ⟨rfl, hb2⟩
  have HB2 := Lib.hid hb2
  clear hb2
  go_wp2_with fail
  go_quiet (fail)
  go_wp2_with fail
  go_ret2
  exact ⟨rfl, HB2.out.trans (below_drewN' _ _ _)⟩

set_option maxHeartbeats 1600000 in
theorem zzNumberOf_calls (s p : ByteArray) (n : Nat) (hn : n < 18446744073709551616) (hs : s.data.toList = p.data.toList ++ padK n 20) (w : World) :
    Calls Tryd.prog 8 #[.string s, .string p] w fun e w' => e = .returned (.tuple #[.int .u64 n, .bool true]) ∧ Below w.heap.size w w' := by
  have HC := Lib.hid (numberOf_calls s p n hn hs w)
  clear hs
  go_enter Tryd.func8, Tryd.ntmps8
  go_wp2_with fail
  refine HC.out.mono ?_
  rintro e w2 ⟨rfl, hb2⟩
  have HB := Lib.hid hb2
  clear hb2
  go_wp2_with fail
  go_ret2
  exact ⟨rfl, HB.out⟩

set_option maxHeartbeats 1600000 in
theorem zzBytes_calls (p : ByteArray) (n : Nat) (hp : p.size ≤ 9223372036854775807) (w : World) :
    Calls Tryd.prog 6 #[.string p, .int .u64 n] w fun e w' => e = .returned (.bool (decide (p.size ≤ 1048576))) ∧ w' = w := by
  by_cases h : p.size ≤ 1048576
  · go_enter Tryd.func6, Tryd.ntmps6
    go_wp2_with fail
    go_ret
    exact ⟨by simp [h], rfl⟩
  · go_enter Tryd.func6, Tryd.ntmps6
    go_wp2_with fail
    go_ret
    exact ⟨by simp [h], rfl⟩

end Go.Proofs.Qxb6001712aDoor
