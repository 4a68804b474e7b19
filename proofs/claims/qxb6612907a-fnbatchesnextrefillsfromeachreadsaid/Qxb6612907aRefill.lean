import Derived.Test.Qxb6612907aNextEnd
namespace Go.Proofs.Qxb6612907a
open Go.RowKit

set_option maxHeartbeats 400000 in
theorem next_refill (gb gp g o r rc c km kc : Nat) (A KA : Option Addr) (key : ByteArray) (VA : Option Addr) (vn vc : Nat) (off len file : Int) (xs : List Value) (w : World)
    (hblk : w.heap[gb]? = some (.cells #[.func (.func 25) #[] #[.pointer (some ⟨gp, 0, none⟩)], .slice A 0 c, .bool false, .slice KA km kc] 52 (0, 0)))
    (hp : w.cell? ⟨gp, 0, none⟩ = some (.slice (some ⟨g, o, none⟩) (r + 1) (rc + 1)))
    (hr20 : r ≤ rc) (hg : g < gb)
    (h0 : w.cell? ⟨g, o, none⟩ = some (.string key)) (h1 : w.cell? ⟨g, o + 1, none⟩ = some (.slice VA vn vc)) (h2 : w.cell? ⟨g, o + 1 + 1, none⟩ = some (.int .i64 off))
    (h3 : w.cell? ⟨g, o + 1 + 1 + 1, none⟩ = some (.int .u32 len)) (h4 : w.cell? ⟨g, o + 1 + 1 + 1 + 1, none⟩ = some (.int .u32 file))
    (hown : w.ownsRow (gb + 1) 5 1 (.slice KA km kc) km xs) (hkey : key.size ≤ 1048576) :
    Calls Try.prog 23 #[.pointer (some ⟨gb, 0, none⟩)] w fun e w' => ∃ KA' kc' A', e = .returned (.tuple #[.agg #[.slice KA' key.size kc', .int .i64 off, .int .u32 len, .int .u32 file, .slice VA vn vc], .bool true, .nilIface]) ∧
      (0 < r → A' = some ⟨g, o + 5, none⟩) ∧ w'.heap[gb]? = some (.cells #[.func (.func 25) #[] #[.pointer (some ⟨gp, 0, none⟩)], .slice A' r rc, .bool false, .slice KA' key.size kc'] 52 (0, 0)) ∧
      w'.ownsRow (gb + 1) 5 1 (.slice KA' key.size kc') key.size (Lib.strCells key) ∧ Kept gb (Value.ownBlock (.slice KA 0 kc)) w w' := by
  have hgb := lt_of_heap hblk
  have hgp := World.block_lt_of_cell? _ _ hp
  have c0 : w.cell? ⟨gb, 0, none⟩ = some (.func (.func 25) #[] #[.pointer (some ⟨gp, 0, none⟩)]) := by rw [cell_of_row w gb 0 _ 52 (0, 0) hblk]; rfl
  have c1 : w.cell? ⟨gb, 1, none⟩ = some (.slice A 0 c) := by rw [cell_of_row w gb 1 _ 52 (0, 0) hblk]; rfl
  have c2 : w.cell? ⟨gb, 2, none⟩ = some (.bool false) := by rw [cell_of_row w gb 2 _ 52 (0, 0) hblk]; rfl
  have c3 : w.cell? ⟨gb, 3, none⟩ = some (.slice KA km kc) := by rw [cell_of_row w gb 3 _ 52 (0, 0) hblk]; rfl
  have f1 := frozen_of_row w gb 1 _ 52 hblk
  have f2 := frozen_of_row w gb 2 _ 52 hblk
  have f3 := frozen_of_row w gb 3 _ 52 hblk
  have hg' : g < w.heap.size := by omega
  have hgne : g ≠ gb := by omega
  have hck := cut_key KA km kc (by rcases key_shape hown with h | ⟨h, gk, h', _⟩; exact .inl h; exact .inr ⟨h, gk, h'⟩)
  obtain ⟨A', hA', hcb⟩ := cut_batch g o r rc hr20
  have hb2 : ((w.setCell ⟨gb, 1, none⟩ (.slice (some ⟨g, o, none⟩) (r + 1) (rc + 1))).setCell ⟨gb, 2, none⟩ (.bool false)).heap[gb]? = some (.cells #[.func (.func 25) #[] #[.pointer (some ⟨gp, 0, none⟩)], .slice (some ⟨g, o, none⟩) (r + 1) (rc + 1), .bool false, .slice KA km kc] 52 (0, 0)) := by
    rw [heap_setCell_same _ gb 2 _ 52 _ (heap_setCell_same _ gb 1 _ 52 _ hblk)]
    rfl
  have hown2 := ownsRow_setCell_below (ownsRow_setCell_below hown (a := ⟨gb, 1, none⟩) (Nat.lt_succ_self _) (.slice (some ⟨g, o, none⟩) (r + 1) (rc + 1))) (a := ⟨gb, 2, none⟩) (Nat.lt_succ_self _) (.bool false)
  have hk2 : Kept gb (Value.ownBlock (.slice KA 0 kc)) w ((w.setCell ⟨gb, 1, none⟩ (.slice (some ⟨g, o, none⟩) (r + 1) (rc + 1))).setCell ⟨gb, 2, none⟩ (.bool false)) := ((Kept.refl _ _ _).setCell_gb 1 _).setCell_gb 2 _
  obtain ⟨KA', kc', w1, hap, hown', b1, bR, bP, hbel0⟩ := append_world gb KA km kc xs _ _ _ _ (.slice A' r rc) key #[.slice none 0 0, .int .i64 0, .int .u32 0, .int .u32 0, .slice none 0 0] #[.string key, .slice VA vn vc, .int .i64 off, .int .u32 len, .int .u32 file] hb2 hown2 hkey
  have hbel := hk2.trans hbel0
  have hsize : ((w.setCell ⟨gb, 1, none⟩ (.slice (some ⟨g, o, none⟩) (r + 1) (rc + 1))).setCell ⟨gb, 2, none⟩ (.bool false)).heap.size = w.heap.size := by simp
  rw [hsize] at bR bP
  have hsz := lt_of_heap bP
  have d3 : w1.cell? ⟨gb, 3, none⟩ = some (.slice KA km kc) := by rw [cell_of_row w1 gb 3 _ 52 (0, 0) b1]; rfl
  have df := frozen_of_row w1 gb 3 _ 52 b1
  have r0 : w1.cell? ⟨w.heap.size, 0, none⟩ = some (.slice none 0 0) := by rw [cell_of_row w1 _ 0 _ 56 (0, 0) bR]; rfl
  have r1 : w1.cell? ⟨w.heap.size, 1, none⟩ = some (.int .i64 0) := by rw [cell_of_row w1 _ 1 _ 56 (0, 0) bR]; rfl
  have r2 : w1.cell? ⟨w.heap.size, 2, none⟩ = some (.int .u32 0) := by rw [cell_of_row w1 _ 2 _ 56 (0, 0) bR]; rfl
  have r3 : w1.cell? ⟨w.heap.size, 3, none⟩ = some (.int .u32 0) := by rw [cell_of_row w1 _ 3 _ 56 (0, 0) bR]; rfl
  have r4 : w1.cell? ⟨w.heap.size, 4, none⟩ = some (.slice none 0 0) := by rw [cell_of_row w1 _ 4 _ 56 (0, 0) bR]; rfl
  have rf : ∀ j, w1.frozen? ⟨w.heap.size, j, none⟩ = false := fun j => frozen_of_row w1 _ j _ 56 bR
  have p0 : w1.cell? ⟨w.heap.size + 1, 0, none⟩ = some (.string key) := by rw [cell_of_row w1 _ 0 _ 54 (0, 0) bP]; rfl
  have p1 : w1.cell? ⟨w.heap.size + 1, 1, none⟩ = some (.slice VA vn vc) := by rw [cell_of_row w1 _ 1 _ 54 (0, 0) bP]; rfl
  have p2 : w1.cell? ⟨w.heap.size + 1, 2, none⟩ = some (.int .i64 off) := by rw [cell_of_row w1 _ 2 _ 54 (0, 0) bP]; rfl
  have p3 : w1.cell? ⟨w.heap.size + 1, 3, none⟩ = some (.int .u32 len) := by rw [cell_of_row w1 _ 3 _ 54 (0, 0) bP]; rfl
  have p4 : w1.cell? ⟨w.heap.size + 1, 4, none⟩ = some (.int .u32 file) := by rw [cell_of_row w1 _ 4 _ 54 (0, 0) bP]; rfl
  have hne : gb ≠ w.heap.size := Nat.ne_of_lt hgb
  have FIN := ((((((NextFin.start b1 bR hown' hbel hne).store (by decide) hne (Nat.le_refl _) 0 (.slice KA' key.size kc')).store (by decide) hne (Nat.le_refl _) 1 (.int .i64 off)).store (by decide) hne (Nat.le_refl _) 2 (.int .u32 len)).store (by decide) hne (Nat.le_refl _) 3 (.int .u32 file)).store (by decide) hne (Nat.le_refl _) 4 (.slice VA vn vc)).drew
  clear hne hblk b1 bR bP hb2 hown2 hk2 hbel0 hbel hsize
  go_enter Try.func23, Try.ntmps23
  go_wp2
  refine wp_loop_rounds 2 ?_
  rw [rounds_succ]
  go_wp2
  rw [rounds_succ]
  go_wp2
  go_region_law ((refine step_append_run (by rfl) _ _ _ _ (by rfl) _ _ (by rfl) (by rfl) hap ?_))
  all_goals go_wp2
  all_goals go_region
  all_goals go_wp2
  all_goals exact bodyPost_ret (v := .tuple #[.agg #[.slice KA' key.size kc', .int .i64 off, .int .u32 len, .int .u32 file, .slice VA vn vc], .bool true, .nilIface]) (by simp [results, Try.results23, go_sem, r0, r1, r2, r3, r4]) rfl ⟨KA', kc', A', rfl, hA', FIN.blk, FIN.own, FIN.kept⟩

end Go.Proofs.Qxb6612907a
