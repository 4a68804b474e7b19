import Derived.Test.Qxb6612907aRefill
namespace Go.Proofs.Qxb6612907a
open Go.RowKit

/-- The world behind ZZbatchesNext, w1 the one behind next, H the block of its second result. -/
def behind (w1 : World) (H : Nat) (k v : Value) (off len file : Int) : World :=
  ((((w1.setCell ⟨H, 0, none⟩ (.int .i64 off)).setCell ⟨H, 1, none⟩ (.int .u32 len)).setCell ⟨H, 2, none⟩ (.int .u32 file)).alloc (.cells #[k, .int .i64 off, .int .u32 len, .int .u32 file, v] 56)).drew

set_option maxHeartbeats 400000 in
theorem bnext (gb : Nat) (w : World) (ok : Bool) (kn vn vc : Nat) (VA : Option Addr) (off len file : Int) (X : Option Addr → Nat → Option Addr → World → Prop)
    (hnext : Calls Try.prog 23 #[.pointer (some ⟨gb, 0, none⟩)] (w.alloc (.cells #[.int .i64 0, .int .u32 0, .int .u32 0] 34)) fun e w' => ∃ KA' kc' A', e = .returned (.tuple #[.agg #[.slice KA' kn kc', .int .i64 off, .int .u32 len, .int .u32 file, .slice VA vn vc], .bool ok, .nilIface]) ∧ X KA' kc' A' w')
    (hX : ∀ KA' kc' A' w', X KA' kc' A' w' → w'.heap[w.heap.size]? = some (.cells #[.int .i64 0, .int .u32 0, .int .u32 0] 34 (0, 0))) :
    Calls Try.prog 9 #[.pointer (some ⟨gb, 0, none⟩)] w fun e w' => ∃ KA' kc' A' w1, X KA' kc' A' w1 ∧ e = .returned (.tuple #[.slice KA' kn kc', .agg #[.int .i64 off, .int .u32 len, .int .u32 file], .slice VA vn vc, .bool ok, .nilIface]) ∧
      w' = behind w1 w.heap.size (.slice KA' kn kc') (.slice VA vn vc) off len file := by
  have HN : Hid _ := hnext
  clear hnext
  go_enter Try.func9, Try.ntmps9
  go_wp2_with fail
  refine Calls.mono HN.out ?_
  rintro e w1 ⟨KA', kc', A', rfl, hx⟩
  have hR := hX _ _ _ _ hx
  have hlt := lt_of_heap hR
  have r0 : w1.cell? ⟨w.heap.size, 0, none⟩ = some (.int .i64 0) := by rw [cell_of_row w1 _ 0 _ 34 (0, 0) hR]; rfl
  have r1 : w1.cell? ⟨w.heap.size, 1, none⟩ = some (.int .u32 0) := by rw [cell_of_row w1 _ 1 _ 34 (0, 0) hR]; rfl
  have r2 : w1.cell? ⟨w.heap.size, 2, none⟩ = some (.int .u32 0) := by rw [cell_of_row w1 _ 2 _ 34 (0, 0) hR]; rfl
  have rf : ∀ j, w1.frozen? ⟨w.heap.size, j, none⟩ = false := fun j => frozen_of_row w1 _ j _ 34 hR
  have HX : Hid _ := hx
  clear hx hX hR HN
  go_wp2
  go_region
  all_goals go_wp2
  all_goals refine bodyPost_ret (v := .tuple #[.slice KA' kn kc', .agg #[.int .i64 off, .int .u32 len, .int .u32 file], .slice VA vn vc, .bool ok, .nilIface]) (by simp [results, Try.results9, go_sem, r0, r1, r2, hlt]) rfl ⟨KA', kc', A', w1, HX.out, rfl, ?_⟩
  all_goals rfl

end Go.Proofs.Qxb6612907a
