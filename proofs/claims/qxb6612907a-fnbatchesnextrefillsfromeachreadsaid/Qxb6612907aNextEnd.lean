import Derived.Test.Qxb6612907aNext
namespace Go.Proofs.Qxb6612907a
open Go.RowKit

/-- The zero entry. -/
def zeroEntry : Value := .agg #[.slice none 0 0, .int .i64 0, .int .u32 0, .int .u32 0, .slice none 0 0]

set_option maxHeartbeats 400000 in
theorem next_done (gb c : Nat) (A : Option Addr) (fn k : Value) (w : World)
    (hblk : w.heap[gb]? = some (.cells #[fn, .slice A 0 c, .bool true, k] 52 (0, 0))) :
    Calls Try.prog 23 #[.pointer (some ⟨gb, 0, none⟩)] w fun e w' => e = .returned (.tuple #[zeroEntry, .bool false, .nilIface]) ∧
      w'.heap[gb]? = some (.cells #[fn, .slice A 0 c, .bool true, k] 52 (0, 0)) ∧ Below w.heap.size w w' := by
  have hgb := lt_of_heap hblk
  have c1 : w.cell? ⟨gb, 1, none⟩ = some (.slice A 0 c) := by rw [cell_of_row w gb 1 _ 52 (0, 0) hblk]; rfl
  have c2 : w.cell? ⟨gb, 2, none⟩ = some (.bool true) := by rw [cell_of_row w gb 2 _ 52 (0, 0) hblk]; rfl
  have H : Hid (w.heap[gb]? = some (.cells #[fn, .slice A 0 c, .bool true, k] 52 (0, 0))) := hblk
  clear hblk
  go_enter Try.func23, Try.ntmps23
  go_wp2
  refine wp_loop_rounds 1 ?_
  rw [rounds_succ]
  go_wp2
  exact bodyPost_ret (v := .tuple #[zeroEntry, .bool false, .nilIface]) (by simp [results, Try.results23, go_sem, zeroEntry]) rfl ⟨rfl, by rw [Below.heap_alloc _ _ _ hgb]; exact H.out, (Below.refl _ _).alloc (Nat.le_refl _) _⟩

set_option maxHeartbeats 400000 in
theorem next_last (gb c : Nat) (A : Option Addr) (k : Value) (w : World)
    (hblk : w.heap[gb]? = some (.cells #[.func (.func 22) #[] #[], .slice A 0 c, .bool false, k] 52 (0, 0))) :
    Calls Try.prog 23 #[.pointer (some ⟨gb, 0, none⟩)] w fun e w' => e = .returned (.tuple #[zeroEntry, .bool false, .nilIface]) ∧
      w'.heap[gb]? = some (.cells #[.func (.func 22) #[] #[], .slice none 0 0, .bool true, k] 52 (0, 0)) ∧ Kept gb none w w' := by
  have hgb := lt_of_heap hblk
  have c0 : w.cell? ⟨gb, 0, none⟩ = some (.func (.func 22) #[] #[]) := by rw [cell_of_row w gb 0 _ 52 (0, 0) hblk]; rfl
  have c1 : w.cell? ⟨gb, 1, none⟩ = some (.slice A 0 c) := by rw [cell_of_row w gb 1 _ 52 (0, 0) hblk]; rfl
  have c2 : w.cell? ⟨gb, 2, none⟩ = some (.bool false) := by rw [cell_of_row w gb 2 _ 52 (0, 0) hblk]; rfl
  have f1 := frozen_of_row w gb 1 _ 52 hblk
  have f2 := frozen_of_row w gb 2 _ 52 hblk
  have H : Hid (w.heap[gb]? = some (.cells #[.func (.func 22) #[] #[], .slice A 0 c, .bool false, k] 52 (0, 0))) := hblk
  clear hblk
  go_enter Try.func23, Try.ntmps23
  go_wp2
  refine wp_loop_rounds 2 ?_
  rw [rounds_succ]
  go_wp2
  rw [rounds_succ]
  go_wp2
  refine bodyPost_ret (v := .tuple #[zeroEntry, .bool false, .nilIface]) (by simp [results, Try.results23, go_sem, zeroEntry]) rfl ⟨rfl, ?_, (((Kept.refl _ _ _).setCell_gb 1 _).setCell_gb 2 _).alloc _⟩
  rw [Below.heap_alloc _ _ _ (by simp; omega), heap_setCell_same _ gb 2 _ 52 _ (heap_setCell_same _ gb 1 _ 52 _ H.out)]
  rfl

/-- The Repeating source: an empty list, nothing ever yielded. -/
theorem next_refill_empty (gb gp c n' : Nat) (A A' : Option Addr) (k : Value) (w : World)
    (hblk : w.heap[gb]? = some (.cells #[.func (.func 25) #[] #[.pointer (some ⟨gp, 0, none⟩)], .slice A 0 c, .bool false, k] 52 (0, 0)))
    (hp : w.cell? ⟨gp, 0, none⟩ = some (.slice A' 0 n')) :
    Calls Try.prog 23 #[.pointer (some ⟨gb, 0, none⟩)] w fun e w' => e = .returned (.tuple #[zeroEntry, .bool false, .nilIface]) ∧
      w'.heap[gb]? = some (.cells #[.func (.func 25) #[] #[.pointer (some ⟨gp, 0, none⟩)], .slice A' 0 n', .bool true, k] 52 (0, 0)) ∧ Kept gb none w w' := by
  have hgb := lt_of_heap hblk
  have hgp := World.block_lt_of_cell? _ _ hp
  have c0 : w.cell? ⟨gb, 0, none⟩ = some (.func (.func 25) #[] #[.pointer (some ⟨gp, 0, none⟩)]) := by rw [cell_of_row w gb 0 _ 52 (0, 0) hblk]; rfl
  have c1 : w.cell? ⟨gb, 1, none⟩ = some (.slice A 0 c) := by rw [cell_of_row w gb 1 _ 52 (0, 0) hblk]; rfl
  have c2 : w.cell? ⟨gb, 2, none⟩ = some (.bool false) := by rw [cell_of_row w gb 2 _ 52 (0, 0) hblk]; rfl
  have f1 := frozen_of_row w gb 1 _ 52 hblk
  have f2 := frozen_of_row w gb 2 _ 52 hblk
  have H : Hid (w.heap[gb]? = some (.cells #[.func (.func 25) #[] #[.pointer (some ⟨gp, 0, none⟩)], .slice A 0 c, .bool false, k] 52 (0, 0))) := hblk
  clear hblk
  go_enter Try.func23, Try.ntmps23
  go_wp2
  refine wp_loop_rounds 2 ?_
  rw [rounds_succ]
  go_wp2
  rw [rounds_succ]
  go_wp2
  refine bodyPost_ret (v := .tuple #[zeroEntry, .bool false, .nilIface]) (by simp [results, Try.results23, go_sem, zeroEntry]) rfl ⟨rfl, ?_, (((Kept.refl _ _ _).setCell_gb 1 _).setCell_gb 2 _).alloc _⟩
  rw [Below.heap_alloc _ _ _ (by simp; omega), heap_setCell_same _ gb 2 _ 52 _ (heap_setCell_same _ gb 1 _ 52 _ H.out)]
  rfl

end Go.Proofs.Qxb6612907a
