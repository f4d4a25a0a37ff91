/-
  baseAfter, walked: strings.CutPrefix, strconv.ParseInt and strconv.FormatInt by the guide's own contracts.
-/
import Derived.Test.Qxb6602136aDoorRows
import Derived.Test.Qxb6602136aDoorShelf
import Derived.Lib.Strings
import Derived.Lib.Hide
import Derived.Lib.AppendIntMem
import Derived.WalkKit
import Derived.WalkSpells
import Derived.WalkLawsBesides
import Derived.BigQuiet
import Derived.Deep.QuietTactic
namespace Go.Proofs.Qxb6602136aDoor
open Go.RowKit Go.Sort

/-- The table's name, off the given row. -/
abbrev tabName : String := Rows.fnBaseAfterMatchesDecimalModelRow.named.getD 2 ""

/-- What the library's variables hold, as the walks want it. -/
structure Ready (w : World) : Prop where
  tab : Lib.TabIs Tryd.prog w tabName .u64 Lib.pow10Tab
  es : ∃ tp p, w.var? Tryd.prog "strconv.ErrSyntax" = some #[.iface tp p]
  er : ∃ tp p, w.var? Tryd.prog "strconv.ErrRange" = some #[.iface tp p]

theorem var_on {w w' : World} {n : String} {cs : Array Value} (h : w.var? Tryd.prog n = some cs) (hb : Below w.heap.size w w') : w'.var? Tryd.prog n = some cs := by
  unfold World.var? at *
  cases hg : Tryd.prog.globalNamed n with
  | none => simp [hg] at h
  | some g =>
    simp only [hg, Option.bind_some] at h ⊢
    have hlt : g < w.heap.size := by
      rcases Nat.lt_or_ge g w.heap.size with h' | h'
      · exact h'
      · rw [Array.getElem?_eq_none h'] at h; simp at h
    rw [hb.block g hlt]
    exact h

theorem Ready.on {w w' : World} (h : Ready w) (hb : Below w.heap.size w w') : Ready w' := by
  obtain ⟨ht, ⟨tp, p, hs⟩, ⟨tq, q, hr⟩⟩ := h
  exact ⟨var_on ht hb, ⟨tp, p, var_on hs hb⟩, ⟨tq, q, var_on hr hb⟩⟩

theorem below_less {w w' : World} {B B' : Nat} (h : Below B w w') (hB : B' ≤ B) : Below B' w w' :=
  ⟨h.os, h.tape, h.output, h.size, fun k hk => h.block k (by omega)⟩

theorem below_then {a b c : World} (h : Below a.heap.size a b) (k : Below b.heap.size b c) : Below a.heap.size a c := h.trans (below_less k h.size)

theorem below_drewN' (B : Nat) (w : World) (k : Nat) : Below B w (w.drewN k) := ⟨rfl, rfl, rfl, Nat.le_refl _, fun _ _ => rfl⟩

theorem cutPrefix_calls (s p : ByteArray) (w : World) :
    Calls Tryd.prog 31 #[.string s, .string p] w fun e w' => e = .returned (.tuple #[.string ⟨(Lib.trimPrefix s.data.toList p.data.toList).toArray⟩, .bool (Lib.hasPrefix s.data.toList p.data.toList)]) ∧ w' = w :=
  Any.strings_CutPrefix (ρ := Tryd.lays103_ren) Tryd.lays103 s p w

theorem formatInt_calls (n : Int) (h0 : -9223372036854775808 ≤ n) (h1 : n ≤ 9223372036854775807) (w : World) (h : Ready w) :
    Calls Tryd.prog 33 #[.int .i64 n, .int .i64 10] w fun e w' => e = .returned (.string ⟨(Lib.itoa n).toArray⟩) ∧ Below w.heap.size w w' := by
  refine (Any.strconv_FormatInt_10 (ρ := Tryd.laysM173_ren) Tryd.laysM173 n h0 h1 w h.tab).mono ?_
  rintro e w' ⟨rfl, k, os, rfl⟩
  exact ⟨rfl, Lib.below_grow _ _ (Nat.le_refl _) k os⟩

/-- strconv.ParseInt at base 10 and 64 bits: the number where it spells one; else some number and an error that is not nil. -/
theorem parseInt_calls (s : ByteArray) (hlim : s.size ≤ 281474976710656) (w : World) (h : Ready w) :
    Calls Tryd.prog 32 #[.string s, .int .i64 10, .int .i64 64] w fun e w' =>
      ((∃ v, Lib.parseIntB 64 s.data.toList = .ok v ∧ e = .returned (.tuple #[.int .i64 v, .nilIface])) ∨
        ((∀ v, Lib.parseIntB 64 s.data.toList ≠ .ok v) ∧ ∃ k t x, e = .returned (.tuple #[.int .i64 k, .iface t x]))) ∧ Below w.heap.size w w' := by
  obtain ⟨_, ⟨tp, p, hs⟩, ⟨tq, q, hr⟩⟩ := h
  cases hp : Lib.parseIntB 64 s.data.toList
  · rename_i v
    refine (Any.strconv_ParseInt_10_at64_ok (ρ := Tryd.laysC174_ren) Tryd.laysC174 s (by omega) v hp w).mono ?_
    rintro e w' ⟨rfl, hw⟩
    refine ⟨.inl ⟨v, rfl, rfl⟩, ?_⟩
    rcases hw with rfl | ⟨t, rfl⟩
    · exact Below.refl _ _
    · exact Lib.bytesWorld_below _ _ _
  · refine (Any.strconv_ParseInt_10_at64_syntax_var (ρ := Tryd.laysC174_ren) Tryd.laysC174 s hlim hp tp p w hs).mono ?_
    rintro e w' ⟨N, rfl, _, _, hb⟩
    exact ⟨.inr ⟨fun v hv => by (cases hv), _, _, _, rfl⟩, hb⟩
  · refine (Any.strconv_ParseInt_10_at64_range_var (ρ := Tryd.laysC174_ren) Tryd.laysC174 s hlim hp tq q w hr).mono ?_
    rintro e w' ⟨N, rfl, _, _, hb⟩
    exact ⟨.inr ⟨fun v hv => by (cases hv), _, _, _, rfl⟩, hb⟩

/-- The number that d spells as FormatInt writes it, above 0. -/
def decOf (d : List UInt8) : Option Int :=
  match Lib.parseIntB 64 d with
  | .ok v => if 0 < v ∧ Lib.itoa v = d then some v else none
  | _ => none

/-- What baseAfter answers. -/
def baseL (n p : List UInt8) : Option Int := if Lib.hasPrefix n p = true then decOf (n.drop p.length) else none

/-- An answer, as the two results. -/
def answer (o : Option Int) : Value := .tuple #[.int .i64 (o.getD 0), .bool o.isSome]

theorem parseIntB_bounds (d : List UInt8) (v : Int) (h : Lib.parseIntB 64 d = .ok v) : -9223372036854775808 ≤ v ∧ v ≤ 9223372036854775807 := by
  have hb := Lib.parseIntB_bounds h
  have e : ((2 ^ (64 - 1) : Nat) : Int) = 9223372036854775808 := by decide
  rw [e] at hb
  omega

set_option maxHeartbeats 1600000 in
theorem baseAfter_calls (s p : ByteArray) (hs : s.size ≤ 1048576) (w : World) (hR : Ready w) :
    Calls Tryd.prog 26 #[.string s, .string p] w fun e w' => e = .returned (answer (baseL s.data.toList p.data.toList)) ∧ Below w.heap.size w w' := by
  have hcut := cutPrefix_calls s p w
  have hb : baseL s.data.toList p.data.toList = if Lib.hasPrefix s.data.toList p.data.toList = true then decOf (Lib.trimPrefix s.data.toList p.data.toList) else none := by
    unfold baseL Lib.trimPrefix
    split <;> rfl
  have hlen : (Lib.trimPrefix s.data.toList p.data.toList).length ≤ 1048576 := by
    have := Lib.trimPrefix_le s.data.toList p.data.toList
    rw [Lib.size_eq] at hs
    omega
  rw [hb]
  generalize Lib.trimPrefix s.data.toList p.data.toList = d at hcut hlen
  generalize Lib.hasPrefix s.data.toList p.data.toList = okp at hcut
  have hsz : (⟨d.toArray⟩ : ByteArray).size ≤ 281474976710656 := by
    rw [Lib.size_eq]
    simp
    omega
  have hparse := parseInt_calls ⟨d.toArray⟩ hsz w hR
  have HCUT := Lib.hid hcut
  have HPARSE := Lib.hid hparse
  have HR := Lib.hid hR
  clear hcut hparse hR hb hlen hsz
  go_enter Tryd.func26, Tryd.ntmps26
  go_wp2_with fail
  refine HCUT.out.mono ?_
  rintro e w1 ⟨rfl, rfl⟩
  go_wp2_with fail
  refine HPARSE.out.mono ?_
  rintro e w2 ⟨hv | ⟨hno, k, t, x, rfl⟩, hb2⟩
  · obtain ⟨v, hv, rfl⟩ := hv
    have hv' : Lib.parseIntB 64 d = .ok v := hv
    have hvb := parseIntB_bounds d v hv'
    have hR2 := HR.out.on hb2
    have HB2 := Lib.hid hb2
    have HV := Lib.hid hv'
    clear hb2 hv hv'
    cases okp
    · go_wp2_with fail
      go_ret2
      exact ⟨rfl, HB2.out⟩
    · by_cases hpos : 0 < v
      · have hf := formatInt_calls v hvb.1 hvb.2 w2 hR2
        have HF := Lib.hid hf
        clear hf hR2
        go_wp2_with fail
        refine HF.out.mono ?_
        rintro e w3 ⟨rfl, hb3⟩
        have HB3 := Lib.hid (below_then HB2.out hb3)
        clear hb3
        by_cases heq : Lib.itoa v = d
        · have hq : (Lib.itoa v == d) = true := by simp [heq]
          have e : decOf d = some v := by
            unfold decOf
            rw [HV.out]
            simp [hpos, heq]
          have HE := Lib.hid e
          clear heq e
          go_wp2_with fail
          go_ret2
          refine ⟨?_, HB3.out⟩
          rw [HE.out]
          rfl
        · have hq : (Lib.itoa v == d) = false := by simp [heq]
          have e : decOf d = none := by
            unfold decOf
            rw [HV.out]
            simp [heq]
          have HE := Lib.hid e
          clear heq e
          go_wp2_with fail
          go_ret2
          refine ⟨?_, HB3.out⟩
          rw [HE.out]
          rfl
      · clear hR2
        go_wp2_with fail
        go_ret2
        refine ⟨?_, HB2.out⟩
        have e : decOf d = none := by
          unfold decOf
          rw [HV.out]
          exact if_neg (by omega)
        rw [e]
        rfl
  · have hd : decOf d = none := by
      unfold decOf
      split
      · rename_i v hv
        exact absurd hv (hno v)
      · rfl
    have HB2 := Lib.hid hb2
    have HD := Lib.hid hd
    clear hb2 hno hd
    cases okp
    · go_wp2_with fail
      go_ret2
      exact ⟨rfl, HB2.out⟩
    · go_wp2_with fail
      go_ret2
      refine ⟨?_, HB2.out⟩
      rw [HD.out]
      rfl

set_option maxHeartbeats 1600000 in
theorem zzBaseAfter_calls (s p : ByteArray) (hs : s.size ≤ 1048576) (w : World) (hR : Ready w) :
    Calls Tryd.prog 10 #[.string s, .string p] w fun e w' => e = .returned (answer (baseL s.data.toList p.data.toList)) ∧ Below w.heap.size w w' := by
  have HC := Lib.hid (baseAfter_calls s p hs w hR)
  clear hR
  unfold answer at HC ⊢
  generalize baseL s.data.toList p.data.toList = o at HC
  go_enter Tryd.func10, Tryd.ntmps10
  go_wp2_with fail
  refine HC.out.mono ?_
  rintro e w2 ⟨rfl, hb2⟩
  have HB := Lib.hid hb2
  clear hb2
  go_wp2_with fail
  go_ret2
  exact ⟨rfl, HB.out⟩
end Go.Proofs.Qxb6602136aDoor
