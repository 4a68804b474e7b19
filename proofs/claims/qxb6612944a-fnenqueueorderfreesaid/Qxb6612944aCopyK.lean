/- Laws of no program: 'copy' over elements of k cells; three lists joined; steps for the walk. -/
import Derived.WalkKit
import Derived.Laws.CopyRow
import Derived.Laws.IdiomCopy
namespace Go.Proofs.Qxb6612944a
open Go.RowKit

/-- 'copy(d, s)' where an element has k cells, d in a row that is known whole. -/
theorem run_copy_rowK {P : Program} (w : World) (dT sT ty elem : TypeId) (g o dLen dCap : Nat) (a : Addr) (sLen sCap : Nat) (cur : Array Value) (t : TypeId) (cs : List Value) (k n : Nat)
    (hu : P.underlying dT = some (.slice elem)) (hs : (P.info? elem).map (·.size) = some k)
    (hg : w.heap[g]? = some (.cells cur t (0, 0))) (hn : Nat.min sLen dLen = n) (hcl : cs.length = n * k)
    (hsrc : ∀ j v, cs[j]? = some v → w.cell? (a.add j) = some v) (hfit : o + cs.length ≤ cur.size) (h1 : ∀ v ∈ cs, v.oneCell' = true) :
    (Builtin.copy_ #[dT, sT] ty #[.slice (some ⟨g, o, none⟩) dLen dCap, .slice (some a) sLen sCap]).run P w =
      .ok (goInt n) (w.setRow g (cur.toList.take o ++ cs ++ cur.toList.drop (o + cs.length)).toArray) := by
  have hl := run_loadCells_list (P := P) w a cs hsrc
  have hst := run_storeCells_at P g o t cs 0 cur w hg (by simpa using hfit) h1
  cases hq : P.info? elem with
  | none => simp [hq] at hs
  | some i =>
    have hi : i.size = k := by simpa [hq] using hs
    simp [Builtin.copy_, run_underlying hu, Builtin.lenOf, Builtin.firstCells, sizeOf, typeInfo, hq, hi, hn, ← hcl, hl, hst]

theorem wp_copy_run {P : Program} (w : World) {o : Oper} {a : Act} {K : Act → World → Prop} {Q : Exit → Act → World → Prop} (d s : Operand) (t t' : TypeId)
    (ho : o.op = .call { callee := .builtin .copy, args := #[d, s], argTypes := #[t, t'] }) (v u : Value) (hd : a.eval d = v) (hs : a.eval s = u) {v' : Value} {w' : World}
    (hr : (Builtin.copy_ #[t, t'] o.type #[v, u]).run P w = .ok v' w') (h : K (a.put o.dst v') w') : o.wp P a w K Q := by
  unfold Oper.wp execOp
  simp only [ho, resolve, invoke, builtin, Sem.run_bind, Sem.run_pure, Result.andThen_ok, List.map_toArray, List.map_cons, List.map_nil, hd, hs, hr]
  exact h

theorem wpList_copy_run {P : Program} (w : World) {ops : Array Oper} {rest : List Oper} {o : Oper} {a : Act} {Q : Exit → Act → World → Prop} (hgd : o.guard = none) (d s : Operand) (t t' : TypeId)
    (ho : o.op = .call { callee := .builtin .copy, args := #[d, s], argTypes := #[t, t'] }) (v u : Value) (hd : a.eval d = v) (hs : a.eval s = u) {v' : Value} {w' : World}
    (hr : (Builtin.copy_ #[t, t'] o.type #[v, u]).run P w = .ok v' w') (h : wpList P ops Q rest (a.put o.dst v') w') : wpList P ops Q (o :: rest) a w :=
  wpList_plain hgd fun _ hK => wp_copy_run w d s t t' ho v u hd hs hr (hK _ _ h)

theorem step_copy_run {P : Program} {ops : Array Oper} {o : Oper} {a : Act} {w : World} {K : Act → World → Prop} {Q : Exit → Act → World → Prop} {E : Prop}
    (hg : o.guard = none) (d x : Operand) (dT sT : TypeId) (hop : o.op = Op.call { callee := Callee.builtin Builtin.copy, args := #[d, x], argTypes := #[dT, sT] })
    (v u : Value) (hd : a.eval d = v) (hx : a.eval x = u) {v' : Value} {w' : World} (hr : (Builtin.copy_ #[dT, sT] o.type #[v, u]).run P w = .ok v' w') (hK : K (a.put o.dst v') w') :
    if Region.wanted o (yielded ops a.tmps) = true then Oper.wp P o a w K Q else E := by
  have hw : Region.wanted o (yielded ops a.tmps) = true := by simp [Region.wanted, hg]
  rw [if_pos hw]
  exact wp_copy_run w d x dT sT hop v u hd hx hr hK

/-- The row behind the two copies of Insert in place. -/
theorem shift_list {α : Type} (cur xs ev : List α) (a N m : Nat) (hx : cur.take N = xs) (ha : a ≤ N) (hN : N + m ≤ cur.length) (hev : ev.length = m)
    (R1 : List α) (hR1 : R1 = cur.take (a + m) ++ xs.drop a ++ cur.drop (a + m + (N - a))) :
    (R1.take a ++ ev ++ R1.drop (a + m)).length = cur.length ∧ (R1.take a ++ ev ++ R1.drop (a + m)).take (N + m) = xs.take a ++ (ev ++ xs.drop a) := by
  have hxl : xs.length = N := by rw [← hx, List.length_take]; omega
  have e1 : R1.take a = xs.take a := by
    rw [hR1, List.append_assoc, List.take_append_of_le_length (by simp; omega), List.take_take, ← hx, List.take_take]
    congr 1; omega
  have e2 : R1.drop (a + m) = xs.drop a ++ cur.drop (a + m + (N - a)) := by
    rw [hR1, List.append_assoc, List.drop_append_of_le_length (by simp; omega), List.drop_eq_nil_of_le (by simp; omega), List.nil_append]
  rw [e1, e2]
  constructor
  · simp; omega
  · rw [List.append_assoc, ← List.append_assoc ev, ← List.append_assoc, List.take_append_of_le_length (by simp; omega), List.take_of_length_le (by simp; omega)]

/-- .. and in a new row. -/
theorem grow_list {α : Type} (row xs ev : List α) (a N m : Nat) (hxl : xs.length = N) (ha : a ≤ N) (hN : N + m ≤ row.length) (hev : ev.length = m) (hrow : row.take a = xs.take a)
    (R1 : List α) (hR1 : R1 = row.take a ++ ev ++ row.drop (a + m)) :
    R1.length = row.length ∧ (R1.take (a + m) ++ xs.drop a ++ R1.drop (a + m + (N - a))).length = row.length ∧ (R1.take (a + m) ++ xs.drop a ++ R1.drop (a + m + (N - a))).take (N + m) = xs.take a ++ (ev ++ xs.drop a) := by
  have e0 : R1.length = row.length := by rw [hR1]; simp; omega
  have e1 : R1.take (a + m) = xs.take a ++ ev := by
    rw [hR1, List.take_append_of_le_length (by simp; omega), List.take_of_length_le (by simp; omega), hrow]
  refine ⟨e0, ?_, ?_⟩
  · rw [e1]; simp; omega
  · rw [e1, List.take_append_of_le_length (by simp; omega), List.take_of_length_le (by simp; omega), List.append_assoc]

end Go.Proofs.Qxb6612944a
