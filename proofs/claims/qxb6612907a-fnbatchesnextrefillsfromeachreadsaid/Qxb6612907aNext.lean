import Derived.Test.Qxb6612907aYields
import Derived.Lib.AppendStr
import Derived.Deep.AppendLies
import Derived.Deep.RegionLaw
import Derived.Deep.Light
namespace Go.Proofs.Qxb6612907a
open Go.RowKit

/-- 'append(key[:0], s...)': a slice of the call's own that owns the string's bytes. -/
theorem append_key (X : World) (B : Nat) (KA : Option Addr) (km kc : Nat) (xs : List Value) (hown : X.ownsRow B 5 1 (.slice KA km kc) km xs) (key : ByteArray) (hkey : key.size ≤ 1048576) (hB : B ≤ X.heap.size) :
    ∃ KA' kc' w1, (Builtin.append_ #[24, 9] 24 #[.slice KA 0 kc, .string key]).run Try.prog X = .ok (.slice KA' key.size kc') w1 ∧ w1.ownsRow B 5 1 (.slice KA' key.size kc') key.size (Lib.strCells key) ∧
      X.grownBy w1 (Value.ownBlock (.slice KA 0 kc)) := by
  obtain ⟨i, hi, hz0, hz1, hz2⟩ := info_parts Try.info5
  have hown0 : X.ownsRow B 5 1 (.slice KA 0 kc) 0 [] := by
    refine ⟨by simp, ?_⟩
    rcases hown.2 with ⟨h, h'⟩ | ⟨g, cap, cur, h, h1, h2, h3, h4, h5, h6⟩
    · simp only [Value.slice.injEq] at h
      obtain ⟨rfl, _, rfl⟩ := h
      exact .inl ⟨rfl, rfl⟩
    · simp only [Value.slice.injEq] at h
      obtain ⟨rfl, _, rfl⟩ := h
      exact .inr ⟨g, _, cur, rfl, h1, h2, Nat.zero_le _, h4, h5, by simp⟩
  obtain ⟨v', w1, hr, ho, hg, _⟩ := Lib.run_append_own_string (P := Try.prog) X B 24 9 24 5 i Try.underlying24 Try.underlying9 hi hz0 hz1 hz2 _ 0 [] hown0 key (by simp [maxLen]; omega) (by omega) hB
  simp only [Nat.zero_add, List.nil_append] at ho
  have hv : ∃ KA' kc', v' = .slice KA' key.size kc' := by
    rcases ho.2 with ⟨h, h'⟩ | ⟨g, cap, cur, h, _⟩
    · exact ⟨none, 0, by rw [h, h']⟩
    · exact ⟨_, _, h⟩
  obtain ⟨KA', kc', rfl⟩ := hv
  exact ⟨KA', kc', w1, hr, ho, hg⟩

theorem step_append_run {P : Program} {ops : Array Oper} {o : Oper} {a : Act} {w : World} {K : Act → World → Prop} {Q : Exit → Act → World → Prop} {E : Prop}
    (hg : o.guard = none) (d x : Operand) (dT sT : TypeId) (hop : o.op = Op.call { callee := Callee.builtin Builtin.append, args := #[d, x], argTypes := #[dT, sT] })
    (v u : Value) (hd : a.eval d = v) (hx : a.eval x = u) {v' : Value} {w' : World} (hr : (Builtin.append_ #[dT, sT] o.type #[v, u]).run P w = .ok v' w') (hK : K (a.put o.dst v') w') :
    if Region.wanted o (yielded ops a.tmps) = true then Oper.wp P o a w K Q else E := by
  have hw : Region.wanted o (yielded ops a.tmps) = true := by simp [Region.wanted, hg]
  rw [if_pos hw]
  unfold Oper.wp execOp
  simp only [hop, resolve, invoke, builtin, Sem.run_bind, Sem.run_pure, Result.andThen_ok, List.map_toArray, List.map_cons, List.map_nil, hd, hx, hr]
  exact hK

theorem cut_key (KA : Option Addr) (km kc : Nat) (hKA : (KA = none ∧ km = 0 ∧ kc = 0) ∨ (km ≤ kc ∧ ∃ gk, KA = some ⟨gk, 0, none⟩)) (w : World) :
    (Instr.slice 24 (.slice KA km kc) none (some (.int .i64 0)) none).run Try.prog w = .ok (.slice KA 0 kc) w := by
  rcases hKA with ⟨rfl, rfl, rfl⟩ | ⟨hk, gk, rfl⟩
  · kernel_rfl
  · go_simp

theorem cut_batch (g o r rc : Nat) (hr : r ≤ rc) : ∃ A', (0 < r → A' = some ⟨g, o + 5, none⟩) ∧ ∀ w, (Instr.slice 30 (.slice (some ⟨g, o, none⟩) (r + 1) (rc + 1)) (some (.int .i64 1)) none none).run Try.prog w = .ok (.slice A' r rc) w := by
  have h1 : (1 : Int) ≤ (r : Int) + 1 := by omega
  by_cases h : rc = 0
  · subst h
    obtain rfl : r = 0 := by omega
    exact ⟨some ⟨g, o, none⟩, fun h => by omega, fun w => by go_simp⟩
  · exact ⟨some ⟨g, o + 5, none⟩, fun h => rfl, fun w => by go_simp⟩

theorem lt_of_heap {w : World} {b : Nat} {o : Obj} (h : w.heap[b]? = some o) : b < w.heap.size := by
  rcases Nat.lt_or_ge b w.heap.size with h' | h'
  · exact h'
  · rw [Array.getElem?_eq_none h'] at h; cases h

theorem key_shape {w : World} {B : Nat} {KA : Option Addr} {km kc : Nat} {xs : List Value} (hown : w.ownsRow B 5 1 (.slice KA km kc) km xs) :
    (KA = none ∧ km = 0 ∧ kc = 0) ∨ (km ≤ kc ∧ ∃ gk, KA = some ⟨gk, 0, none⟩ ∧ B ≤ gk ∧ gk < w.heap.size) := by
  rcases hown.2 with ⟨h, h'⟩ | ⟨g, cap, cur, h, h1, h2, h3, h4, h5, h6⟩
  · simp only [Value.slice.injEq] at h
    obtain ⟨rfl, rfl, rfl⟩ := h
    exact .inl ⟨rfl, rfl, rfl⟩
  · simp only [Value.slice.injEq] at h
    obtain ⟨rfl, _, rfl⟩ := h
    exact .inr ⟨h3, g, rfl, h1, lt_of_heap h2⟩

theorem heap_alloc1 (w : World) (o : Obj) : (w.alloc o).heap[w.heap.size]? = some o := heap_alloc_new w o

/-- w' is w but for block gb, the row 'row' and new blocks. -/
structure Kept (gb : Nat) (row : Option Nat) (w w' : World) : Prop where
  os : w'.os = w.os
  tape : w'.tape = w.tape
  output : w'.output = w.output
  size : w.heap.size ≤ w'.heap.size
  block : ∀ k, k < w.heap.size → k ≠ gb → some k ≠ row → w'.heap[k]? = w.heap[k]?

theorem Kept.refl (gb : Nat) (row : Option Nat) (w : World) : Kept gb row w w := ⟨rfl, rfl, rfl, Nat.le_refl _, fun _ _ _ _ => rfl⟩
theorem Kept.trans {gb : Nat} {row : Option Nat} {a b c : World} (h : Kept gb row a b) (k : Kept gb row b c) : Kept gb row a c :=
  ⟨k.os.trans h.os, k.tape.trans h.tape, k.output.trans h.output, Nat.le_trans h.size k.size, fun i hi h1 h2 => (k.block i (Nat.lt_of_lt_of_le hi h.size) h1 h2).trans (h.block i hi h1 h2)⟩
theorem Kept.setCell_gb {gb : Nat} {row : Option Nat} {a w : World} (h : Kept gb row a w) (j : Nat) (u : Value) : Kept gb row a (w.setCell ⟨gb, j, none⟩ u) :=
  h.trans ⟨rfl, rfl, rfl, by simp [World.setCell], fun k _ h1 _ => Below.heap_setCell w ⟨gb, j, none⟩ u k h1⟩
theorem Kept.setCell_new {gb : Nat} {row : Option Nat} {a w : World} (h : Kept gb row a w) {H : Nat} (hH : a.heap.size ≤ H) (j : Nat) (u : Value) : Kept gb row a (w.setCell ⟨H, j, none⟩ u) :=
  ⟨h.os, h.tape, h.output, by simpa [World.setCell] using h.size, fun k hk h1 h2 => (Below.heap_setCell w ⟨H, j, none⟩ u k (Nat.ne_of_lt (Nat.lt_of_lt_of_le hk hH))).trans (h.block k hk h1 h2)⟩
theorem Kept.alloc {gb : Nat} {row : Option Nat} {a w : World} (h : Kept gb row a w) (o : Obj) : Kept gb row a (w.alloc o) :=
  h.trans ⟨rfl, rfl, rfl, by simp, fun k hk _ _ => Below.heap_alloc w o k hk⟩
theorem Kept.drew {gb : Nat} {row : Option Nat} {a w : World} (h : Kept gb row a w) : Kept gb row a w.drew := ⟨h.os, h.tape, h.output, h.size, h.block⟩
theorem Kept.grown {gb : Nat} {row : Option Nat} {a w w' : World} (h : Kept gb row a w) (hg : w.grownBy w' row) : Kept gb row a w' :=
  h.trans ⟨hg.os, hg.tape, hg.output, hg.size, fun k hk _ h2 => hg.block k hk h2⟩
theorem Kept.below {gb : Nat} {row : Option Nat} {w w' : World} (h : Kept gb row w w') (hgb : gb ≤ w.heap.size) (hr : ∀ k, row = some k → gb ≤ k) : Below gb w w' :=
  ⟨h.os, h.tape, h.output, h.size, fun k hk => h.block k (Nat.lt_of_lt_of_le hk hgb) (Nat.ne_of_lt hk) (fun e => by have := hr k e.symm; omega)⟩

/-- The world in which next appends, and the one behind it. R: the result's cells, P: the pair's. -/
theorem append_world (gb : Nat) (KA : Option Addr) (km kc : Nat) (xs : List Value) (w : World) (c0 c1 c2 A' : Value) (key : ByteArray) (R P : Array Value)
    (hblk : w.heap[gb]? = some (.cells #[c0, c1, c2, .slice KA km kc] 52 (0, 0)))
    (hown : w.ownsRow (gb + 1) 5 1 (.slice KA km kc) km xs) (hkey : key.size ≤ 1048576) :
    ∃ KA' kc' w1, (Builtin.append_ #[24, 9] 24 #[.slice KA 0 kc, .string key]).run Try.prog ((((w.setCell ⟨gb, 1, none⟩ A').alloc (.cells R 56)).alloc (.cells P 54)).drew) = .ok (.slice KA' key.size kc') w1 ∧
      w1.ownsRow (gb + 1) 5 1 (.slice KA' key.size kc') key.size (Lib.strCells key) ∧ w1.heap[gb]? = some (.cells #[c0, A', c2, .slice KA km kc] 52 (0, 0)) ∧
      w1.heap[w.heap.size]? = some (.cells R 56 (0, 0)) ∧ w1.heap[w.heap.size + 1]? = some (.cells P 54 (0, 0)) ∧ Kept gb (Value.ownBlock (.slice KA 0 kc)) w w1 := by
  have hgb := lt_of_heap hblk
  have hsh := key_shape hown
  obtain ⟨KA', kc', w1, hap, hown', hgrow⟩ := append_key ((((w.setCell ⟨gb, 1, none⟩ A').alloc (.cells R 56)).alloc (.cells P 54)).drew) (gb + 1) KA km kc xs (((ownsRow_setCell_below hown (by simp) _).alloc _).alloc _).drew key hkey (by simp; omega)
  have hne : ∀ k, (k ≤ gb ∨ w.heap.size ≤ k) → some k ≠ Value.ownBlock (.slice KA 0 kc) := by
    intro k hk h
    rcases hsh with ⟨rfl, _⟩ | ⟨_, gk, rfl, h1, h2⟩
    · simp [Value.ownBlock] at h
    · simp [Value.ownBlock] at h; omega
  have hs : (w.setCell ⟨gb, 1, none⟩ A').heap.size = w.heap.size := by simp
  refine ⟨KA', kc', w1, hap, hown', ?_, ?_, ?_, ?_⟩
  · rw [hgrow.block gb (by simp; omega) (hne _ (.inl (Nat.le_refl _)))]
    show (((w.setCell ⟨gb, 1, none⟩ A').alloc (.cells R 56)).alloc (.cells P 54)).heap[gb]? = _
    rw [Below.heap_alloc _ _ _ (by simp; omega), Below.heap_alloc _ _ _ (by simp; omega), heap_setCell_same w gb 1 _ 52 A' hblk]
    rfl
  · rw [hgrow.block _ (by simp; omega) (hne _ (.inr (Nat.le_refl _)))]
    show (((w.setCell ⟨gb, 1, none⟩ A').alloc (.cells R 56)).alloc (.cells P 54)).heap[w.heap.size]? = _
    rw [Below.heap_alloc _ _ _ (by simp), ← hs, heap_alloc1]
  · rw [hgrow.block _ (by simp) (hne _ (.inr (by omega)))]
    show (((w.setCell ⟨gb, 1, none⟩ A').alloc (.cells R 56)).alloc (.cells P 54)).heap[w.heap.size + 1]? = _
    have : w.heap.size + 1 = ((w.setCell ⟨gb, 1, none⟩ A').alloc (.cells R 56)).heap.size := by simp
    rw [this, heap_alloc1]
  · exact (((((Kept.refl _ _ _).setCell_gb 1 _).alloc _).alloc _).drew).grown hgrow

/-- What is known behind next's append: the batches' block, a block H of another type than bytes, the key's row, all else as in w. -/
structure NextFin (w : World) (row : Option Nat) (gb H : Nat) (T : TypeId) (b : Obj) (k : Value) (n : Nat) (xs : List Value) (W : World) : Prop where
  blk : W.heap[gb]? = some b
  res : ∃ R, W.heap[H]? = some (.cells R T (0, 0))
  own : W.ownsRow (gb + 1) 5 1 k n xs
  kept : Kept gb row w W

section
variable {w : World} {row : Option Nat} {gb H : Nat} {T : TypeId} {b : Obj} {k : Value} {n : Nat} {xs : List Value} {W : World}

theorem NextFin.store (h : NextFin w row gb H T b k n xs W) (hT : T ≠ 5) (hH : gb ≠ H) (hwH : w.heap.size ≤ H) (j : Nat) (u : Value) : NextFin w row gb H T b k n xs (W.setCell ⟨H, j, none⟩ u) := by
  obtain ⟨R, hR⟩ := h.res
  refine ⟨?_, ⟨_, heap_setCell_same W H j _ T u hR⟩, ⟨h.own.1, ?_⟩, h.kept.setCell_new hwH j u⟩
  · rw [Below.heap_setCell W ⟨H, j, none⟩ u gb hH]
    exact h.blk
  · rcases h.own.2 with h2 | ⟨g, cap, cur, hv, hg, hh, r⟩
    · exact .inl h2
    · refine .inr ⟨g, cap, cur, hv, hg, ?_, r⟩
      rw [Below.heap_setCell W ⟨H, j, none⟩ u g (fun e => by
        have e' : g = H := e
        subst e'
        rw [hh] at hR
        simp at hR
        exact hT hR.2.symm)]
      exact hh

theorem NextFin.drew (h : NextFin w row gb H T b k n xs W) : NextFin w row gb H T b k n xs W.drew := ⟨h.blk, h.res, h.own, h.kept.drew⟩

theorem NextFin.alloc (h : NextFin w row gb H T b k n xs W) (o : Obj) : NextFin w row gb H T b k n xs (W.alloc o) := by
  obtain ⟨R, hR⟩ := h.res
  exact ⟨by rw [Below.heap_alloc _ _ _ (lt_of_heap h.blk)]; exact h.blk, ⟨R, by rw [Below.heap_alloc _ _ _ (lt_of_heap hR)]; exact hR⟩, h.own.alloc o, h.kept.alloc o⟩

theorem NextFin.start {w1 : World} {c0 c1 c2 k k' : Value} {R : Array Value} (hb : w1.heap[gb]? = some (.cells #[c0, c1, c2, k] 52 (0, 0))) (hR : w1.heap[H]? = some (.cells R T (0, 0)))
    (hown : w1.ownsRow (gb + 1) 5 1 k' n xs) (hbel : Kept gb row w w1) (hH : gb ≠ H) : NextFin w row gb H T (.cells #[c0, c1, c2, k'] 52 (0, 0)) k' n xs (w1.setCell ⟨gb, 3, none⟩ k') := by
  refine ⟨?_, ⟨R, ?_⟩, ownsRow_setCell_below hown (a := ⟨gb, 3, none⟩) (Nat.lt_succ_self _) k', hbel.setCell_gb 3 k'⟩
  · rw [heap_setCell_same w1 gb 3 _ 52 k' hb]
    rfl
  · rw [Below.heap_setCell w1 ⟨gb, 3, none⟩ k' H (fun e => hH e.symm)]
    exact hR
end

set_option maxHeartbeats 400000 in
theorem next_some (gb g o r rc km kc : Nat) (KA : Option Addr) (fn : Value) (done : Bool) (key : ByteArray) (VA : Option Addr) (vn vc : Nat) (off len file : Int) (xs : List Value) (w : World)
    (hblk : w.heap[gb]? = some (.cells #[fn, .slice (some ⟨g, o, none⟩) (r + 1) (rc + 1), .bool done, .slice KA km kc] 52 (0, 0)))
    (hr20 : r ≤ rc) (hg : g < gb)
    (h0 : w.cell? ⟨g, o, none⟩ = some (.string key)) (h1 : w.cell? ⟨g, o + 1, none⟩ = some (.slice VA vn vc)) (h2 : w.cell? ⟨g, o + 1 + 1, none⟩ = some (.int .i64 off))
    (h3 : w.cell? ⟨g, o + 1 + 1 + 1, none⟩ = some (.int .u32 len)) (h4 : w.cell? ⟨g, o + 1 + 1 + 1 + 1, none⟩ = some (.int .u32 file))
    (hown : w.ownsRow (gb + 1) 5 1 (.slice KA km kc) km xs) (hkey : key.size ≤ 1048576) :
    Calls Try.prog 23 #[.pointer (some ⟨gb, 0, none⟩)] w fun e w' => ∃ KA' kc' A', e = .returned (.tuple #[.agg #[.slice KA' key.size kc', .int .i64 off, .int .u32 len, .int .u32 file, .slice VA vn vc], .bool true, .nilIface]) ∧
      (0 < r → A' = some ⟨g, o + 5, none⟩) ∧ w'.heap[gb]? = some (.cells #[fn, .slice A' r rc, .bool done, .slice KA' key.size kc'] 52 (0, 0)) ∧
      w'.ownsRow (gb + 1) 5 1 (.slice KA' key.size kc') key.size (Lib.strCells key) ∧ Kept gb (Value.ownBlock (.slice KA 0 kc)) w w' := by
  have hgb := lt_of_heap hblk
  have c0 : w.cell? ⟨gb, 0, none⟩ = some fn := by rw [cell_of_row w gb 0 _ 52 (0, 0) hblk]; rfl
  have c1 : w.cell? ⟨gb, 1, none⟩ = some (.slice (some ⟨g, o, none⟩) (r + 1) (rc + 1)) := by rw [cell_of_row w gb 1 _ 52 (0, 0) hblk]; rfl
  have c2 : w.cell? ⟨gb, 2, none⟩ = some (.bool done) := by rw [cell_of_row w gb 2 _ 52 (0, 0) hblk]; rfl
  have c3 : w.cell? ⟨gb, 3, none⟩ = some (.slice KA km kc) := by rw [cell_of_row w gb 3 _ 52 (0, 0) hblk]; rfl
  have f1 := frozen_of_row w gb 1 _ 52 hblk
  have f3 := frozen_of_row w gb 3 _ 52 hblk
  have hg' : g < w.heap.size := by omega
  have hck := cut_key KA km kc (by rcases key_shape hown with h | ⟨h, gk, h', _⟩; exact .inl h; exact .inr ⟨h, gk, h'⟩)
  obtain ⟨A', hA', hcb⟩ := cut_batch g o r rc hr20
  obtain ⟨KA', kc', w1, hap, hown', b1, bR, bP, hbel⟩ := append_world gb KA km kc xs w _ _ _ (.slice A' r rc) key #[.slice none 0 0, .int .i64 0, .int .u32 0, .int .u32 0, .slice none 0 0] #[.string key, .slice VA vn vc, .int .i64 off, .int .u32 len, .int .u32 file] hblk hown hkey
  have hsz := lt_of_heap bP
  have d3 : w1.cell? ⟨gb, 3, none⟩ = some (.slice KA km kc) := by rw [cell_of_row w1 gb 3 _ 52 (0, 0) b1]; rfl
  have df := frozen_of_row w1 gb 3 _ 52 b1
  have r0 : w1.cell? ⟨w.heap.size, 0, none⟩ = some (.slice none 0 0) := by rw [cell_of_row w1 _ 0 _ 56 (0, 0) bR]; rfl
  have r1 : w1.cell? ⟨w.heap.size, 1, none⟩ = some (.int .i64 0) := by rw [cell_of_row w1 _ 1 _ 56 (0, 0) bR]; rfl
  have r2 : w1.cell? ⟨w.heap.size, 2, none⟩ = some (.int .u32 0) := by rw [cell_of_row w1 _ 2 _ 56 (0, 0) bR]; rfl
  have r3 : w1.cell? ⟨w.heap.size, 3, none⟩ = some (.int .u32 0) := by rw [cell_of_row w1 _ 3 _ 56 (0, 0) bR]; rfl
  have r4 : w1.cell? ⟨w.heap.size, 4, none⟩ = some (.slice none 0 0) := by rw [cell_of_row w1 _ 4 _ 56 (0, 0) bR]; rfl
  have rf : ∀ j, w1.frozen? ⟨w.heap.size, j, none⟩ = false := fun j => frozen_of_row w1 _ j _ 56 bR
  have p0 : w1.cell? ⟨w.heap.size + 1, 0, none⟩ = some (.string key) := by rw [cell_of_row w1 _ 0 _ 54 (0, 0) bP]; rfl
  have p1 : w1.cell? ⟨w.heap.size + 1, 1, none⟩ = some (.slice VA vn vc) := by rw [cell_of_row w1 _ 1 _ 54 (0, 0) bP]; rfl
  have p2 : w1.cell? ⟨w.heap.size + 1, 2, none⟩ = some (.int .i64 off) := by rw [cell_of_row w1 _ 2 _ 54 (0, 0) bP]; rfl
  have p3 : w1.cell? ⟨w.heap.size + 1, 3, none⟩ = some (.int .u32 len) := by rw [cell_of_row w1 _ 3 _ 54 (0, 0) bP]; rfl
  have p4 : w1.cell? ⟨w.heap.size + 1, 4, none⟩ = some (.int .u32 file) := by rw [cell_of_row w1 _ 4 _ 54 (0, 0) bP]; rfl
  have hne : gb ≠ w.heap.size := Nat.ne_of_lt hgb
  have FIN := ((((((NextFin.start b1 bR hown' hbel hne).store (by decide) hne (Nat.le_refl _) 0 (.slice KA' key.size kc')).store (by decide) hne (Nat.le_refl _) 1 (.int .i64 off)).store (by decide) hne (Nat.le_refl _) 2 (.int .u32 len)).store (by decide) hne (Nat.le_refl _) 3 (.int .u32 file)).store (by decide) hne (Nat.le_refl _) 4 (.slice VA vn vc)).drew
  clear hblk b1 bR bP hne
  go_enter Try.func23, Try.ntmps23
  go_wp2
  refine wp_loop_rounds 1 ?_
  rw [rounds_succ]
  go_wp2
  go_region_law ((refine step_append_run (by rfl) _ _ _ _ (by rfl) _ _ (by rfl) (by rfl) hap ?_))
  all_goals go_wp2
  all_goals go_region
  all_goals go_wp2
  all_goals exact bodyPost_ret (v := .tuple #[.agg #[.slice KA' key.size kc', .int .i64 off, .int .u32 len, .int .u32 file, .slice VA vn vc], .bool true, .nilIface]) (by simp [results, Try.results23, go_sem, r0, r1, r2, r3, r4]) rfl ⟨KA', kc', A', rfl, hA', FIN.blk, FIN.own, FIN.kept⟩

end Go.Proofs.Qxb6612907a
