/-
  append WITH ROOM, onto a row of bytes that lies in a block of ANOTHER tag than the element's (var buf [20]byte; buf[:0]): of no program.
-/
import Derived.Lib.AppendStr
import Derived.Laws.OwnMore
import Derived.OwnWalk
import Derived.WalkKit
namespace Go.Proofs.Qxb6600810aDoor
open Go Go.Lib Go.RowKit
section
variable {P : Program} (w : World)

/-- What a row with room becomes when cells are stored behind it. -/
theorem row_set (base T : Nat) (g n cap : Nat) (xs news : List Value) (cur : Array Value) (hxl : xs.length = n) (hbg : base ≤ g) (hg : w.heap[g]? = some (.cells cur T (0, 0))) (hcm : cap ≤ maxLen) (hcs : cur.size = cap) (htake : cur.toList.take n = xs)
    (hroom : n + news.length ≤ cap) :
    (w.setRow g (cur.toList.take n ++ news ++ cur.toList.drop (n + news.length)).toArray).ownsRow base T 1 (.slice (some ⟨g, 0, none⟩) (n + news.length) cap) (n + news.length) (xs ++ news) ∧
      w.grownBy (w.setRow g (cur.toList.take n ++ news ++ cur.toList.drop (n + news.length)).toArray) (some g) := by
  have hlen : (xs ++ news).length = (n + news.length) * 1 := by rw [List.length_append, hxl, Nat.mul_one]
  refine ⟨⟨hlen, .inr ⟨g, cap, _, rfl, hbg, setRow_heap w g cur _ T _ hg, hroom, hcm, ?_, ?_⟩⟩, ⟨rfl, rfl, rfl, by simp, fun k _ hk => setRow_other w g k _ (fun e => hk (by simp [e]))⟩⟩
  · simp only [List.size_toArray, List.length_append, List.length_take, List.length_drop, Array.length_toList]
    omega
  · rw [htake, ← hlen]
    exact List.take_left

theorem run_tag_cells (base T : Nat) (t ty e : TypeId) (i : TypeInfo) (ht : P.underlying t = some (.slice e)) (hi : P.info? e = some i) (hsize : i.size = 1)
    (g n cap : Nat) (xs : List Value) (hown : w.ownsRow base T 1 (.slice (some ⟨g, 0, none⟩) n cap) n xs)
    (a : Addr) (m c : Nat) (news : List Value) (hl : news.length = m) (hnews : ∀ j u, news[j]? = some u → w.cell? (a.add j) = some u) (h1 : ∀ u ∈ news, u.oneCell' = true)
    (hroom : n + m ≤ cap) :
    ∃ w', (Builtin.append_ #[t, t] ty #[.slice (some ⟨g, 0, none⟩) n cap, .slice (some a) m c]).run P w = .ok (.slice (some ⟨g, 0, none⟩) (n + m) cap) w' ∧
      w'.ownsRow base T 1 (.slice (some ⟨g, 0, none⟩) (n + m) cap) (n + m) (xs ++ news) ∧ w.grownBy w' (some g) := by
  subst hl
  have hxl : xs.length = n := by simpa using hown.1
  rcases hown.2 with ⟨h, _⟩ | ⟨g', cap', cur, h, hbg, hg, hnc, hcm, hcs, htake⟩
  · simp at h
  · simp only [Value.slice.injEq, Option.some.injEq, Addr.mk.injEq, and_true, true_and] at h
    obtain ⟨rfl, rfl⟩ := h
    rw [Nat.mul_one] at hcs htake
    have hf := run_firstCells_some (P := P) w i.size news.length a news.length c news (by rw [hsize, Nat.mul_one]) hnews
    rw [hsize] at hf
    have hst := run_storeCells_at P g n T news 0 cur w hg (by omega) h1
    simp only [Nat.add_zero] at hst
    obtain ⟨r1, r2⟩ := row_set w base T g n cap xs news cur hxl hbg hg hcm hcs htake hroom
    refine ⟨_, ?_, r1, r2⟩
    simp [Builtin.append_, run_underlying ht, sizeOf, typeInfo, hi, hsize, Builtin.lenOf, hroom, hf, Addr.add_lit, hst]

theorem run_tag_string (base T : Nat) (t u ty e : TypeId) (i : TypeInfo) (ht : P.underlying t = some (.slice e)) (hu : P.underlying u = some .string) (hi : P.info? e = some i) (hsize : i.size = 1)
    (g n cap : Nat) (xs : List Value) (hown : w.ownsRow base T 1 (.slice (some ⟨g, 0, none⟩) n cap) n xs) (s : ByteArray) (hroom : n + s.size ≤ cap) :
    ∃ w', (Builtin.append_ #[t, u] ty #[.slice (some ⟨g, 0, none⟩) n cap, .string s]).run P w = .ok (.slice (some ⟨g, 0, none⟩) (n + s.size) cap) w' ∧
      w'.ownsRow base T 1 (.slice (some ⟨g, 0, none⟩) (n + s.size) cap) (n + s.size) (xs ++ strCells s) ∧ w.grownBy w' (some g) := by
  have hxl : xs.length = n := by simpa using hown.1
  rcases hown.2 with ⟨h, _⟩ | ⟨g', cap', cur, h, hbg, hg, hnc, hcm, hcs, htake⟩
  · simp at h
  · simp only [Value.slice.injEq, Option.some.injEq, Addr.mk.injEq, and_true, true_and] at h
    obtain ⟨rfl, rfl⟩ := h
    rw [Nat.mul_one] at hcs htake
    have hf := run_firstCells_string (P := P) w 1 s
    have hst := run_storeCells_at P g n T (strCells s) 0 cur w hg (by rw [strCells_length]; omega) (strCells_oneCell s)
    simp only [Nat.add_zero] at hst
    obtain ⟨r1, r2⟩ := row_set w base T g n cap xs (strCells s) cur hxl hbg hg hcm hcs htake (by rw [strCells_length]; exact hroom)
    rw [strCells_length] at r1 r2 hst
    refine ⟨_, ?_, r1, r2⟩
    simp [Builtin.append_, run_underlying ht, run_underlying hu, sizeOf, typeInfo, hi, hsize, Builtin.lenOf, hroom, hf, Addr.add_lit, hst]

/-- For the walk, at the append: whatever its run is told to be. -/
theorem wpList_append_told {ops : Array Oper} {rest : List Oper} {o : Oper} {a : Act} {Q : Exit → Act → World → Prop} (hgd : o.guard = none) (sl x : Operand) (t u : TypeId)
    (ho : o.op = .call { callee := .builtin .append, args := #[sl, x], argTypes := #[t, u] }) (v y v' : Value) (w' : World) (hs : a.eval sl = v) (hx : a.eval x = y)
    (hr : (Builtin.append_ #[t, u] o.type #[v, y]).run P w = .ok v' w') (h : wpList P ops Q rest (a.put o.dst v') w') : wpList P ops Q (o :: rest) a w := by
  refine wpList_plain hgd fun K hK => ?_
  unfold Oper.wp execOp
  simp only [ho, resolve, invoke, builtin, Sem.run_bind, Sem.run_pure, Result.andThen_ok, List.map_toArray, List.map_cons, List.map_nil, hs, hx, hr]
  exact hK _ _ h
end
end Go.Proofs.Qxb6600810aDoor
