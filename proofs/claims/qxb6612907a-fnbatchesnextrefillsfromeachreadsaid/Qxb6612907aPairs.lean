import Derived.Test.Qxb6612907aSteps
namespace Go.Proofs.Qxb6612907a
open Go.RowKit

/-- The pairs handed in, by their index: the key, the value's slice (address, length, capacity) and its bytes, off, len, file. -/
structure Dat where
  key : Nat → ByteArray
  A : Nat → Option Addr
  vn : Nat → Nat
  vc : Nat → Nat
  zs : Nat → List Int
  off : Nat → Int
  len : Nat → Int
  file : Nat → Int

/-- The bytes zs lie at A in w. -/
structure Bytes (w : World) (A : Option Addr) (n c : Nat) (zs : List Int) : Prop where
  length : zs.length = n
  nil : A = none → n = 0 ∧ c = 0
  cells : 0 < n → ∃ b o, A = some ⟨b, o, none⟩ ∧ b < w.heap.size ∧ ∀ i, i < n → w.cell? ⟨b, o + i, none⟩ = some (.int .u8 (zs.getD i 0))

theorem Bytes.later {w w' : World} {A : Option Addr} {n c : Nat} {zs : List Int} (h : Bytes w A n c zs) (hb : Below w.heap.size w w') : Bytes w' A n c zs :=
  ⟨h.length, h.nil, fun hn => by
    obtain ⟨b, o, hA, hlt, hc⟩ := h.cells hn
    exact ⟨b, o, hA, Nat.lt_of_lt_of_le hlt hb.size, fun i hi => by rw [hb.cell hlt]; exact hc i hi⟩⟩

set_option maxHeartbeats 400000 in
theorem clone_empty (x : Addr) (c : Nat) (w : World) :
    Calls Try.prog 16 #[.slice (some x) 0 c] w fun e w' => e = .returned (.slice (some ⟨w.heap.size, 0, none⟩) 0 0) ∧ w' = w.alloc (.cells (Row .u8 []) 5) := by
  have hnil : ∀ (w : World) (a : Option Addr) (n c n' c' : Nat), (binOp .eql 24 (.slice a n c) (.slice none n' c')).run Try.prog w = .ok (.bool a.isNone) w := fun w a n c n' c' => Lib.run_eql_slice_nil w _ _ a n c n' c' Try.underlying24
  have hmk : ∀ w, (Instr.makeSlice 24 (.int .i64 0) (.int .i64 0)).run Try.prog w = .ok (.slice (some ⟨w.heap.size, 0, none⟩) 0 0) (w.alloc (.cells (Row .u8 []) 5)) := make_bytes 0 (by omega)
  go_enter Try.func16, Try.ntmps16
  go_wp2
  refine wp_loop_rounds 1 ?_
  rw [rounds_succ]
  go_wp2
  go_ret
  exact ⟨rfl, rfl⟩

/-- zzClone of a slice that is not nil. -/
theorem clone_any (x : Addr) (n c : Nat) (zs : List Int) (w : World) (hn : n ≤ 1048576) (h : Bytes w (some x) n c zs) :
    Calls Try.prog 16 #[.slice (some x) n c] w fun e w' => e = .returned (.slice (some ⟨w.heap.size, 0, none⟩) n n) ∧ w' = w.alloc (.cells (Row .u8 zs) 5) := by
  by_cases h0 : n = 0
  · subst h0
    obtain rfl : zs = [] := List.eq_nil_of_length_eq_zero h.length
    exact clone_empty x c w
  · obtain ⟨b, o, hA, hlt, hc⟩ := h.cells (by omega)
    cases hA
    exact clone_some b o n c zs w hn h.length hc hlt

/-- The copy's bytes: a block of their own, behind g. -/
def Copy (W : World) (g : Nat) (A : Option Addr) (n : Nat) (zs : List Int) : Prop :=
  zs.length = n ∧ (0 < n → ∃ gk, A = some ⟨gk, 0, none⟩ ∧ g < gk ∧ W.heap[gk]? = some (.cells (Row .u8 zs) 5 (0, 0)))

/-- The first k pairs lie in block g. -/
structure Pairs (w : World) (g n k : Nat) (D : Dat) (W : World) : Prop where
  blk : ∃ PC, W.heap[g]? = some (.cells PC 54 (0, 0)) ∧ PC.size = n * 5
  done : ∀ j, j < k → ∃ A', PairAt W g (j * 5) (D.key j) A' (D.vn j) (D.vn j) (D.off j) (D.len j) (D.file j) ∧ Copy W g A' (D.vn j) (D.zs j) ∧ A'.isNone = (D.A j).isNone
  below : Below g w W

section
variable {w : World} {g n k : Nat} {D : Dat} {W : World}

theorem Pairs.later (h : Pairs w g n k D W) {W' : World} (hb : Below W.heap.size W W') : Pairs w g n k D W' := by
  obtain ⟨PC, hPC, hs⟩ := h.blk
  have hg := lt_of_heap hPC
  refine ⟨⟨PC, by rw [hb.block g hg]; exact hPC, hs⟩, fun j hj => ?_, h.below.trans (hb.mono (Nat.le_of_lt hg))⟩
  obtain ⟨A', hp, ⟨hl, hc⟩, hn⟩ := h.done j hj
  refine ⟨A', hp.later hb hg, ⟨hl, fun h0 => ?_⟩, hn⟩
  obtain ⟨gk, hA, hlt, hh⟩ := hc h0
  exact ⟨gk, hA, hlt, by rw [hb.block gk (lt_of_heap hh)]; exact hh⟩

theorem Pairs.drew (h : Pairs w g n k D W) : Pairs w g n k D W.drew := h.later ((Below.refl _ _).drew)

theorem cell_other {W : World} {g i j : Nat} (hij : i ≠ j) (v : Value) : (W.setCell ⟨g, i, none⟩ v).cell? ⟨g, j, none⟩ = W.cell? ⟨g, j, none⟩ := by
  exact World.cell?_setCell_other _ _ _ _ (fun e => hij (by cases e; rfl))

theorem Pairs.store (h : Pairs w g n k D W) (i : Nat) (hi : k * 5 ≤ i) (v : Value) : Pairs w g n k D (W.setCell ⟨g, i, none⟩ v) := by
  obtain ⟨PC, hPC, hs⟩ := h.blk
  refine ⟨⟨_, heap_setCell_same W g i _ 54 v hPC, by simpa using hs⟩, fun j hj => ?_, h.below.setCell (p := ⟨g, i, none⟩) (Nat.le_refl _) v⟩
  obtain ⟨A', hp, ⟨hl, hc⟩, hn⟩ := h.done j hj
  refine ⟨A', ⟨?_, ?_, ?_, ?_, ?_⟩, ⟨hl, fun h0 => ?_⟩, hn⟩
  · rw [cell_other (by omega)]; exact hp.c0
  · rw [cell_other (by omega)]; exact hp.c1
  · rw [cell_other (by omega)]; exact hp.c2
  · rw [cell_other (by omega)]; exact hp.c3
  · rw [cell_other (by omega)]; exact hp.c4
  · obtain ⟨gk, hA, hlt, hh⟩ := hc h0
    exact ⟨gk, hA, hlt, by rw [Below.heap_setCell W ⟨g, i, none⟩ v gk (Nat.ne_of_gt hlt)]; exact hh⟩
end

end Go.Proofs.Qxb6612907a
