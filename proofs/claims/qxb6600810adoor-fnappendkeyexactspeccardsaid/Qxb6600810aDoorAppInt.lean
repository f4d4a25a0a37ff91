/-
  strconv.AppendInt at base 10, onto a row with room for the numeral, whatever its block's tag: walked. (small, numDigits and formatBase10 by the guide's own contracts.)
-/
import Derived.Test.Qxb6600810aDoorRows
import Derived.Test.Qxb6600810aDoorTag
import Derived.Test.Qxb6600810aDoorShelf
import Derived.Lib.AppendIntMem
import Derived.Lib.ItoaLen
import Derived.Lib.Hide
import Derived.Lib.BufferOwn
import Derived.WalkKit
import Derived.WalkSpells
import Derived.WalkLawsBesides
namespace Go.Proofs.Qxb6600810aDoor
open Go.RowKit Go.Sort

/-- The table's name, off the given row. -/
abbrev tabName : String := Rows.fnAppendKeyExactSpecRow.named.headD ""

theorem byteInfo : (Tryd.prog.info? 5).map (fun i => (i.zero, i.size, i.bytes)) = some (some (.int .u8 0), 1, 1) := by kernel_rfl

theorem small_calls (u : Nat) (hu : u < 100) (w : World) :
    Calls Tryd.prog 48 #[.int .i64 u] w fun e w' => e = .returned (.string ⟨(Lib.decDigits u).toArray⟩) ∧ w' = w :=
  Any.internal_strconv_small (ρ := Tryd.laysM288_ren) { Tryd.laysM288 with } u hu w

theorem numDigits_calls (u : Nat) (h1 : 1 ≤ u) (h2 : u < 18446744073709551616) (w : World) (htab : Lib.TabIs Tryd.prog w tabName .u64 Lib.pow10Tab) :
    Calls Tryd.prog 49 #[.int .u64 u] w fun e w' => e = .returned (.int .i64 (Lib.nDigits u)) ∧ w' = w :=
  Any.internal_strconv_numDigits (ρ := Tryd.laysM288_ren) { Tryd.laysM288 with } u h1 h2 w htab

theorem formatBase10_calls (blk off cap : Nat) (u : Nat) (d : Array UInt8) (w : World) (hH : Holds (fun (b : UInt8) => Value.int .u8 (b.toNat : Int)) w blk off d) (hu : u < 10 ^ d.size) (hu64 : u < 18446744073709551616) (hsz : d.size < 4611686018427387904) :
    Calls Tryd.prog 50 #[.slice (some ⟨blk, off, none⟩) d.size cap, .int .u64 u] w fun e w' =>
      e = .returned (.tuple #[]) ∧ ∃ (n v' : Nat) (dk : Array UInt8), w' = (putRow (fun (b : UInt8) => Value.int .u8 (b.toNat : Int)) w blk off dk).drewN n ∧ Lib.FmtInv d.size u 0 v' dk :=
  Any.internal_strconv_formatBase10 (ρ := Tryd.laysM288_ren) { Tryd.laysM288 with } blk off cap u d w hH hu hu64 hsz

set_option maxHeartbeats 1600000 in
theorem appUint_small (B T n u : Nat) (hu : u < 100) (g cap : Nat) (xs : List Value) (w : World) (hown : w.ownsRow B T 1 (.slice (some ⟨g, 0, none⟩) n cap) n xs) (hroom : n + (Lib.decDigits u).length ≤ cap) :
    Calls Tryd.prog 38 #[.slice (some ⟨g, 0, none⟩) n cap, .int .u64 u, .int .i64 10] w fun e w' => e = .returned (.slice (some ⟨g, 0, none⟩) (n + (Lib.decDigits u).length) cap) ∧
      w'.ownsRow B T 1 (.slice (some ⟨g, 0, none⟩) (n + (Lib.decDigits u).length) cap) (n + (Lib.decDigits u).length) (xs ++ Lib.byteCells (Lib.decDigits u)) ∧ w.grownBy w' (some g) := by
  obtain ⟨i0, hi, hz0, hz1, hz2⟩ := info_parts byteInfo
  have hsz : (⟨(Lib.decDigits u).toArray⟩ : ByteArray).size = (Lib.decDigits u).length := by simp [ByteArray.size]
  obtain ⟨w1, hrun, hown1, hgrow⟩ := run_tag_string (P := Tryd.prog) w B T 22 9 22 5 i0 Tryd.underlying22 Tryd.underlying9 hi hz1 g n cap xs hown ⟨(Lib.decDigits u).toArray⟩ (by rw [hsz]; exact hroom)
  rw [hsz] at hown1 hrun
  rw [Lib.strCells_toArray] at hown1
  have HO := Lib.hid hown1
  have HS := Lib.hid (small_calls u hu w)
  have HR := Lib.hid hrun
  clear hown1 hown hsz hrun
  go_enter Tryd.func38, Tryd.ntmps38
  go_wp2_with fail
  refine HS.out.mono ?_
  rintro e w2 ⟨rfl, rfl⟩
  go_wp2_with (at_builtin; refine wpList_append_told _ rfl _ _ 22 9 rfl _ _ _ _ rfl rfl HR.out ?_)
  go_ret
  exact ⟨rfl, HO.out, hgrow⟩

theorem grownBy_grow (w : World) (k : Nat) (os : Array Obj) : w.grownBy (grow (w.drewN k) os) none :=
  ⟨rfl, rfl, rfl, Lib.size_grow w k os, fun j hj _ => Lib.heap_grow_old w k os j hj⟩

theorem grownBy_then {a b c : World} {g : Nat} (h : a.grownBy b none) (k : b.grownBy c (some g)) : a.grownBy c (some g) :=
  ⟨k.os.trans h.os, k.tape.trans h.tape, k.output.trans h.output, Nat.le_trans h.size k.size, fun i hi hg => (k.block i (Nat.lt_of_lt_of_le hi h.size) hg).trans (h.block i hi (by simp))⟩

theorem grownBy_trans' {a b c : World} {r : Option Nat} (h : a.grownBy b r) (k : b.grownBy c r) : a.grownBy c r :=
  ⟨k.os.trans h.os, k.tape.trans h.tape, k.output.trans h.output, Nat.le_trans h.size k.size, fun i hi hg => (k.block i (Nat.lt_of_lt_of_le hi h.size) hg).trans (h.block i hi hg)⟩

theorem digits_len20 (u : Nat) (hu1 : 1 ≤ u) (hu64 : u < 18446744073709551616) : Lib.nDigits u ≤ 20 := by
  have := Lib.numDigits_eq u hu1 hu64
  split at this <;> omega

set_option maxHeartbeats 3200000 in
set_option maxRecDepth 100000 in
theorem appUint_big (B T n u : Nat) (hu : 100 ≤ u) (hu64 : u < 18446744073709551616) (g cap : Nat) (xs : List Value) (w : World) (hown : w.ownsRow B T 1 (.slice (some ⟨g, 0, none⟩) n cap) n xs) (hroom : n + (Lib.decDigits u).length ≤ cap)
    (htab : Lib.TabIs Tryd.prog w tabName .u64 Lib.pow10Tab) :
    Calls Tryd.prog 38 #[.slice (some ⟨g, 0, none⟩) n cap, .int .u64 u, .int .i64 10] w fun e w' => e = .returned (.slice (some ⟨g, 0, none⟩) (n + (Lib.decDigits u).length) cap) ∧
      w'.ownsRow B T 1 (.slice (some ⟨g, 0, none⟩) (n + (Lib.decDigits u).length) cap) (n + (Lib.decDigits u).length) (xs ++ Lib.byteCells (Lib.decDigits u)) ∧ w.grownBy w' (some g) := by
  obtain ⟨i0, hi, hz0, hz1, hz2⟩ := info_parts byteInfo
  have hu1 : 1 ≤ u := by omega
  have hnd20 := digits_len20 u hu1 hu64
  have hal : Tryd.prog.arrayLen 67 = 24 := by simp [Program.arrayLen, Tryd.underlying67]
  have hsl : ∀ W, (Instr.sliceAt 67 (.pointer (some ⟨w.heap.size, 0, none⟩)) none (some (.int .i64 (Lib.nDigits u : Int))) none).run Tryd.prog W = .ok (.slice (some ⟨w.heap.size, 0, none⟩) (Lib.nDigits u) 24) W := fun W => by
    rw [run_sliceAt_array_h W 67 ⟨w.heap.size, 0, none⟩ (by simp [Program.arrayLen, Program.elem, Tryd.underlying67]) .i64 (Lib.nDigits u : Int) (by omega) (by rw [hal]; omega)]
    go_simp
  have hH0 := Lib.holds_zero0 w 67 (Lib.nDigits u) (by omega)
  have hfmt := formatBase10_calls w.heap.size 0 24 u (Array.replicate (Lib.nDigits u) 0) (w.alloc (.cells Lib.zeros24 67)) hH0 (by rw [Array.size_replicate]; exact Lib.lt_pow_nDigits u) hu64 (by rw [Array.size_replicate]; omega)
  rw [Array.size_replicate] at hfmt
  have HH0 := Lib.hid hH0
  have HF := Lib.hid hfmt
  have HN := Lib.hid (numDigits_calls u hu1 hu64 _ (Lib.tabIs_alloc htab (.cells Lib.zeros24 67)))
  have HO := Lib.hid hown
  have iu : (100 : Int) ≤ (u : Int) := by omega
  clear hH0 hal hfmt htab hown
  go_enter Tryd.func38, Tryd.ntmps38
  go_wp2_with fail
  refine HN.out.mono ?_
  rintro e w' ⟨rfl, rfl⟩
  go_wp2_with fail
  refine HF.out.mono ?_
  rintro e w' ⟨rfl, k, v', dk, rfl, hF⟩
  have hcells : ∀ j u', (Lib.byteCells (Lib.decDigits u))[j]? = some u' → ((putRow (fun (b : UInt8) => Value.int .u8 (b.toNat : Int)) (w.alloc (.cells Lib.zeros24 67)) w.heap.size 0 dk).drewN k).cell? ((⟨w.heap.size, 0, none⟩ : Addr).add j) = some u' := by
    intro j u' hj
    have hjl : j < (Lib.decDigits u).length := by
      have h5 := (List.getElem?_eq_some_iff.1 hj).1
      rwa [Lib.byteCells_length] at h5
    have e5 : (Lib.byteCells (Lib.decDigits u))[j]? = some (Value.int .u8 ((Lib.decDigits u)[j].toNat : Int)) := by simp [Lib.byteCells, hjl]
    rw [e5] at hj
    cases hj
    rw [Lib.row_is_numeral hF j hjl, Lib.add_plain, World.cell?_drewN]
    exact cell?_putRow (fun (b : UInt8) => Value.int .u8 (b.toNat : Int)) _ w.heap.size 0 _ dk HH0.out (by rw [hF.size, Array.size_replicate]) j (by rw [hF.size]; rw [Lib.decDigits_length] at hjl; exact hjl)
  obtain ⟨os, eo⟩ := Lib.fin_at w (.cells Lib.zeros24 67) dk k 0
  have hown2 : ((putRow (fun (b : UInt8) => Value.int .u8 (b.toNat : Int)) (w.alloc (.cells Lib.zeros24 67)) w.heap.size 0 dk).drewN k).ownsRow B T 1 (.slice (some ⟨g, 0, none⟩) n cap) n xs := by rw [eo]; exact Lib.ownsRow_grow HO.out k os
  have hgr2 : w.grownBy ((putRow (fun (b : UInt8) => Value.int .u8 (b.toNat : Int)) (w.alloc (.cells Lib.zeros24 67)) w.heap.size 0 dk).drewN k) none := by rw [eo]; exact grownBy_grow w k os
  generalize (putRow (fun (b : UInt8) => Value.int .u8 (b.toNat : Int)) (w.alloc (.cells Lib.zeros24 67)) w.heap.size 0 dk).drewN k = W2 at hcells hown2 hgr2 ⊢
  obtain ⟨w3, hrun, hown3, hgrow⟩ := run_tag_cells (P := Tryd.prog) W2 B T 22 22 5 i0 Tryd.underlying22 hi hz1 g n cap xs hown2 ⟨w.heap.size, 0, none⟩ (Lib.nDigits u) 24 (Lib.byteCells (Lib.decDigits u)) (by rw [Lib.byteCells_length, Lib.decDigits_length]) hcells (by intro u' hu'; simp only [Lib.byteCells, List.mem_map] at hu'; obtain ⟨b, _, rfl⟩ := hu'; rfl) (by rw [← Lib.decDigits_length]; exact hroom)
  have HR := Lib.hid hrun
  have HG := Lib.hid (grownBy_then hgr2 hgrow)
  have HO3 := Lib.hid hown3
  clear eo HH0 hcells hown2 hgr2 hgrow hrun hown3 hF HF HN HO
  go_wp2_with (at_builtin; refine wpList_append_told _ rfl _ _ 22 22 rfl _ _ _ _ rfl rfl HR.out ?_)
  go_ret
  rw [Lib.decDigits_length]
  exact ⟨rfl, HO3.out, HG.out⟩

theorem appUint (B T n u : Nat) (hu64 : u < 18446744073709551616) (g cap : Nat) (xs : List Value) (w : World) (hown : w.ownsRow B T 1 (.slice (some ⟨g, 0, none⟩) n cap) n xs) (hroom : n + (Lib.decDigits u).length ≤ cap)
    (htab : Lib.TabIs Tryd.prog w tabName .u64 Lib.pow10Tab) :
    Calls Tryd.prog 38 #[.slice (some ⟨g, 0, none⟩) n cap, .int .u64 u, .int .i64 10] w fun e w' => e = .returned (.slice (some ⟨g, 0, none⟩) (n + (Lib.decDigits u).length) cap) ∧
      w'.ownsRow B T 1 (.slice (some ⟨g, 0, none⟩) (n + (Lib.decDigits u).length) cap) (n + (Lib.decDigits u).length) (xs ++ Lib.byteCells (Lib.decDigits u)) ∧ w.grownBy w' (some g) := by
  by_cases h : u < 100
  · exact appUint_small B T n u h g cap xs w hown hroom
  · exact appUint_big B T n u (by omega) hu64 g cap xs w hown hroom htab

theorem below_of_grownBy {w w' : World} {B g : Nat} (h : w.grownBy w' (some g)) (hB : B ≤ w.heap.size) (hg : B ≤ g) : Below B w w' :=
  ⟨h.os, h.tape, h.output, h.size, fun k hk => h.block k (by omega) (by intro e; cases e; omega)⟩

theorem nDigits_le : ∀ (k u : Nat), u < 10 ^ (k + 1) → Lib.nDigits u ≤ k + 1
  | 0, u, h => by rw [Lib.nDigits_small (by omega)]; omega
  | k + 1, u, h => by
    by_cases h10 : u < 10
    · rw [Lib.nDigits_small h10]; omega
    · rw [Lib.nDigits_big h10]
      have := nDigits_le k (u / 10) (by rw [Nat.pow_succ] at h; omega)
      omega

theorem itoa_len (i : Int) (h0 : -9223372036854775808 ≤ i) (h1 : i ≤ 9223372036854775807) : (Lib.itoa i).length ≤ 20 := by
  by_cases hneg : i < 0
  · obtain ⟨u, rfl⟩ : ∃ u : Nat, i = -(u : Int) := ⟨i.natAbs, by omega⟩
    rw [Lib.itoa_neg u (by omega), List.length_cons, Lib.decDigits_length]
    have := nDigits_le 18 u (by omega)
    omega
  · obtain ⟨u, rfl⟩ : ∃ u : Nat, i = u := ⟨i.toNat, by omega⟩
    rw [Lib.itoa_nonneg, Lib.decDigits_length]
    have := nDigits_le 18 u (by omega)
    omega

set_option maxHeartbeats 3200000 in
set_option maxRecDepth 100000 in
theorem appInt_inner (B T : Nat) (i : Int) (h0 : -9223372036854775808 ≤ i) (h1 : i ≤ 9223372036854775807) (g cap : Nat) (w : World) (hown : w.ownsRow B T 1 (.slice (some ⟨g, 0, none⟩) 0 cap) 0 []) (hcap : 20 ≤ cap) (hBw : B ≤ w.heap.size) (hBg : B ≤ g)
    (htab : Lib.TabBelow Tryd.prog B w tabName .u64 Lib.pow10Tab) :
    Calls Tryd.prog 27 #[.slice (some ⟨g, 0, none⟩) 0 cap, .int .i64 i, .int .i64 10] w fun e w' => e = .returned (.slice (some ⟨g, 0, none⟩) (Lib.itoa i).length cap) ∧
      w'.ownsRow B T 1 (.slice (some ⟨g, 0, none⟩) (Lib.itoa i).length cap) (Lib.itoa i).length (Lib.byteCells (Lib.itoa i)) ∧ w.grownBy w' (some g) := by
  obtain ⟨i0, hi, hz0, hz1, hz2⟩ := info_parts byteInfo
  have hlen := itoa_len i h0 h1
  by_cases hneg : i < 0
  · obtain ⟨u, rfl⟩ : ∃ u : Nat, i = -(u : Int) := ⟨i.natAbs, by omega⟩
    have hu1 : 1 ≤ u := by omega
    have hu64 : u < 18446744073709551616 := by omega
    have hwr : IntKind.u64.wrap (-IntKind.u64.wrap (-(u : Int))) = (u : Int) := by rw [IntKind.wrap_u64, IntKind.wrap_u64]; omega
    rw [Lib.itoa_neg u hu1, List.length_cons] at hlen
    rw [Lib.itoa_neg u hu1]
    obtain ⟨w1, hrun, hown1, hgrow⟩ := run_tag_cells (P := Tryd.prog) (w.alloc (.cells #[.int .u8 45] 5)) B T 22 22 5 i0 Tryd.underlying22 hi hz1 g 0 cap [] (hown.alloc _) ⟨w.heap.size, 0, none⟩ 1 1 [.int .u8 45] rfl (by intro j u' hj; match j, hj with | 0, hj => simp at hj; subst hj; simp [Addr.add]) (by intro u' hu'; simp at hu'; subst hu'; rfl) (by omega)
    have hg1 : w.grownBy w1 (some g) := grownBy_then (World.grownBy_alloc w _ none) hgrow
    have hb1 := below_of_grownBy hg1 hBw hBg
    have hc := appUint B T (0 + 1) u hu64 g cap _ w1 hown1 (by omega) (htab w1 hb1)
    have eN : 0 + 1 + (Lib.decDigits u).length = (45 :: Lib.decDigits u).length := by simp; omega
    have eC : [] ++ [Value.int .u8 45] ++ Lib.byteCells (Lib.decDigits u) = Lib.byteCells (45 :: Lib.decDigits u) := by simp [Lib.byteCells]
    rw [eN, eC, Nat.zero_add] at hc
    rw [Nat.zero_add] at hrun
    obtain ⟨l, hl⟩ : ∃ l, l = 45 :: Lib.decDigits u := ⟨_, rfl⟩
    rw [← hl] at hc ⊢
    have HR := Lib.hid hrun
    have HC := Lib.hid hc
    clear hrun hc hown1 hown hgrow htab hl eN eC
    go_enter Tryd.func27, Tryd.ntmps27
    go_wp2_with (at_builtin; refine wpList_append_told _ rfl _ _ 22 22 rfl _ _ _ _ rfl rfl HR.out ?_)
    refine HC.out.mono ?_
    rintro e w2 ⟨rfl, hown2, hg2⟩
    have HO := Lib.hid hown2
    clear hown2
    go_wp2_with fail
    go_ret
    exact ⟨rfl, HO.out, grownBy_trans' hg1 hg2⟩
  · obtain ⟨u, rfl⟩ : ∃ u : Nat, i = u := ⟨i.toNat, by omega⟩
    have hu64 : u < 18446744073709551616 := by omega
    rw [Lib.itoa_nonneg] at hlen ⊢
    have hc := appUint B T 0 u hu64 g cap _ w hown (by omega) htab.here
    rw [Nat.zero_add, List.nil_append] at hc
    have HC := Lib.hid hc
    clear hc hown htab
    go_enter Tryd.func27, Tryd.ntmps27
    go_wp2_with fail
    refine HC.out.mono ?_
    rintro e w2 ⟨rfl, hown2, hg2⟩
    have HO := Lib.hid hown2
    clear hown2
    go_wp2_with fail
    go_ret
    exact ⟨rfl, HO.out, hg2⟩

set_option maxHeartbeats 3200000 in
theorem appInt (B T : Nat) (i : Int) (h0 : -9223372036854775808 ≤ i) (h1 : i ≤ 9223372036854775807) (g cap : Nat) (w : World) (hown : w.ownsRow B T 1 (.slice (some ⟨g, 0, none⟩) 0 cap) 0 []) (hcap : 20 ≤ cap) (hBw : B ≤ w.heap.size) (hBg : B ≤ g)
    (htab : Lib.TabBelow Tryd.prog B w tabName .u64 Lib.pow10Tab) :
    Calls Tryd.prog 23 #[.slice (some ⟨g, 0, none⟩) 0 cap, .int .i64 i, .int .i64 10] w fun e w' => e = .returned (.slice (some ⟨g, 0, none⟩) (Lib.itoa i).length cap) ∧
      w'.ownsRow B T 1 (.slice (some ⟨g, 0, none⟩) (Lib.itoa i).length cap) (Lib.itoa i).length (Lib.byteCells (Lib.itoa i)) ∧ w.grownBy w' (some g) := by
  have HC := Lib.hid (appInt_inner B T i h0 h1 g cap w hown hcap hBw hBg htab)
  obtain ⟨l, hl⟩ : ∃ l, l = Lib.itoa i := ⟨_, rfl⟩
  rw [← hl] at HC ⊢
  clear hown htab hl
  go_enter Tryd.func23, Tryd.ntmps23
  go_wp2_with fail
  refine HC.out.mono ?_
  rintro e w2 ⟨rfl, hown2, hg2⟩
  have HO := Lib.hid hown2
  clear hown2
  go_wp2_with fail
  go_ret
  exact ⟨rfl, HO.out, hg2⟩
end Go.Proofs.Qxb6600810aDoor
