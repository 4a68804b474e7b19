import Derived.Test.Qxb6612907aPairs
namespace Go.Proofs.Qxb6612907a
open Go.RowKit

theorem Try.info54 : (Try.prog.info? 54).map (fun i => (i.zero, i.size, i.bytes)) = some (some (.agg #[.string ByteArray.empty, .slice none 0 0, .int .i64 0, .int .u32 0, .int .u32 0]), 5, 56) := by kernel_rfl

theorem make_pairs (n : Nat) (hn : n ≤ 65536) : ∃ PC : Array Value, PC.size = n * 5 ∧ ∀ (w : World), (Instr.makeSlice 30 (.int .i64 (n : Int)) (.int .i64 (n : Int))).run Try.prog w =
    .ok (.slice (some ⟨w.heap.size, 0, none⟩) n n) (w.alloc (.cells PC 54)) := by
  obtain ⟨i, hi, hz0, hz1, hz2⟩ := info_parts Try.info54
  refine ⟨madeCells (Value.agg #[.string ByteArray.empty, .slice none 0 0, .int .i64 0, .int .u32 0, .int .u32 0]).cells (n * 5), by simp [madeCells], fun w => ?_⟩
  have := run_make (P := Try.prog) w 30 54 i _ Try.underlying30 hi hz0 .i64 .i64 n n (by omega) (Int.le_refl _) (by rw [hz2]; omega) (by omega)
  rw [hz1, Int.toNat_natCast] at this
  exact this

theorem cell_far {b g : Nat} (h : b ≠ g) (W : World) (i j : Nat) (v : Value) : (W.setCell ⟨g, i, none⟩ v).cell? ⟨b, j, none⟩ = W.cell? ⟨b, j, none⟩ :=
  World.cell?_setCell_other _ _ _ _ (fun e => h (by cases e; rfl))

/-- One pair more, stored. -/
theorem Pairs.step {w : World} {g n k : Nat} {D : Dat} {W : World} (h : Pairs w g n k D W) (hk : k < n) (A' : Option Addr) (hc : Copy W g A' (D.vn k) (D.zs k)) (hn : A'.isNone = (D.A k).isNone) :
    Pairs w g n (k + 1) D (((((W.setCell ⟨g, k * 5, none⟩ (.string (D.key k))).setCell ⟨g, k * 5 + 1, none⟩ (.slice A' (D.vn k) (D.vn k))).setCell ⟨g, k * 5 + 2, none⟩ (.int .i64 (D.off k))).setCell ⟨g, k * 5 + 3, none⟩ (.int .u32 (D.len k))).setCell ⟨g, k * 5 + 4, none⟩ (.int .u32 (D.file k))) := by
  obtain ⟨PC, hPC, hs⟩ := h.blk
  have h5 := ((((h.store (k * 5) (by omega) (.string (D.key k))).store (k * 5 + 1) (by omega) (.slice A' (D.vn k) (D.vn k))).store (k * 5 + 2) (by omega) (.int .i64 (D.off k))).store (k * 5 + 3) (by omega) (.int .u32 (D.len k))).store (k * 5 + 4) (by omega) (.int .u32 (D.file k))
  refine ⟨h5.blk, fun j hj => ?_, h5.below⟩
  by_cases hjk : j < k
  · exact h5.done j hjk
  · obtain rfl : j = k := by omega
    have some_at : ∀ i, i < n * 5 → ∃ v, W.cell? ⟨g, i, none⟩ = some v := fun i hi => ⟨_, by rw [cell_of_row W _ _ _ 54 (0, 0) hPC]; exact Array.getElem?_eq_getElem (by omega)⟩
    obtain ⟨u0, e0⟩ := some_at (j * 5) (by omega)
    obtain ⟨u1, e1⟩ := some_at (j * 5 + 1) (by omega)
    obtain ⟨u2, e2⟩ := some_at (j * 5 + 2) (by omega)
    obtain ⟨u3, e3⟩ := some_at (j * 5 + 3) (by omega)
    obtain ⟨u4, e4⟩ := some_at (j * 5 + 4) (by omega)
    refine ⟨A', ⟨?_, ?_, ?_, ?_, ?_⟩, ⟨hc.1, fun h0 => ?_⟩, hn⟩
    · rw [cell_other (by omega), cell_other (by omega), cell_other (by omega), cell_other (by omega)]
      exact World.cell?_setCell_same _ _ _ e0
    · rw [cell_other (by omega), cell_other (by omega), cell_other (by omega)]
      exact World.cell?_setCell_same _ _ _ (by rw [cell_other (by omega)]; exact e1)
    · rw [cell_other (by omega), cell_other (by omega)]
      exact World.cell?_setCell_same _ _ _ (by rw [cell_other (by omega), cell_other (by omega)]; exact e2)
    · rw [cell_other (by omega)]
      exact World.cell?_setCell_same _ _ _ (by rw [cell_other (by omega), cell_other (by omega), cell_other (by omega)]; exact e3)
    · exact World.cell?_setCell_same _ _ _ (by rw [cell_other (by omega), cell_other (by omega), cell_other (by omega), cell_other (by omega)]; exact e4)
    · obtain ⟨gk, hA, hlt, hh⟩ := hc.2 h0
      refine ⟨gk, hA, hlt, ?_⟩
      rw [Below.heap_setCell _ _ _ gk (Nat.ne_of_gt hlt), Below.heap_setCell _ _ _ gk (Nat.ne_of_gt hlt), Below.heap_setCell _ _ _ gk (Nat.ne_of_gt hlt), Below.heap_setCell _ _ _ gk (Nat.ne_of_gt hlt), Below.heap_setCell _ _ _ gk (Nat.ne_of_gt hlt)]
      exact hh

set_option maxHeartbeats 1000000 in
theorem toPairs (A : Option Addr) (b o n c : Nat) (D : Dat) (w : World) (hn : n ≤ 65536) (hA : 0 < n → A = some ⟨b, o, none⟩)
    (hp : ∀ k, k < n → PairAt w b (o + k * 5) (D.key k) (D.A k) (D.vn k) (D.vc k) (D.off k) (D.len k) (D.file k)) (hb : ∀ k, k < n → Bytes w (D.A k) (D.vn k) (D.vc k) (D.zs k)) (h20 : ∀ k, k < n → D.vn k ≤ 1048576) :
    Calls Try.prog 8 #[.slice A n c] w fun e w' => e = .returned (.slice (some ⟨w.heap.size, 0, none⟩) n n) ∧ Pairs w w.heap.size n n D w' := by
  obtain ⟨PC, hPC, hmk⟩ := make_pairs n hn
  go_enter Try.func8, Try.ntmps8
  go_wp2
  go_loopw [4] (fun i wr => ∃ k : Nat, k ≤ n ∧ i = .int .i64 k ∧ Pairs w w.heap.size n k D wr) (fun i _ => n - (intOf i).toNat)
  case atStart => exact ⟨0, Nat.zero_le _, rfl, ⟨PC, heap_alloc_new w _, hPC⟩, fun j hj => absurd hj (Nat.not_lt_zero _), (Below.refl _ _).alloc (Nat.le_refl _) _⟩
  case round =>
    obtain ⟨k, hk, rfl, hP⟩ := hrel
    clear hmk
    by_cases hlt : k < n
    · obtain rfl := hA (by omega)
      obtain ⟨PC', hblk, hsz⟩ := hP.blk
      have hgl := lt_of_heap hblk
      have hbl : b < w.heap.size := World.block_lt_of_cell? _ _ (hp k hlt).c0
      have hq := (hp k hlt).later hP.below hbl
      have q0 := hq.c0
      have q1 := hq.c1
      have q2 := hq.c2
      have q3 := hq.c3
      have q4 := hq.c4
      have hbl' : b < wr.heap.size := by omega
      have hfar := cell_far (b := b) (g := w.heap.size) (by omega)
      obtain ⟨v0, e0⟩ : ∃ v, wr.cell? ⟨w.heap.size, k * 5, none⟩ = some v := ⟨_, by rw [cell_of_row wr _ _ _ 54 (0, 0) hblk]; exact Array.getElem?_eq_getElem (by omega)⟩
      obtain ⟨v1, e1⟩ : ∃ v, wr.cell? ⟨w.heap.size, k * 5 + 1, none⟩ = some v := ⟨_, by rw [cell_of_row wr _ _ _ 54 (0, 0) hblk]; exact Array.getElem?_eq_getElem (by omega)⟩
      obtain ⟨v2, e2⟩ : ∃ v, wr.cell? ⟨w.heap.size, k * 5 + 1 + 1, none⟩ = some v := ⟨_, by rw [cell_of_row wr _ _ _ 54 (0, 0) hblk]; exact Array.getElem?_eq_getElem (by omega)⟩
      obtain ⟨v3, e3⟩ : ∃ v, wr.cell? ⟨w.heap.size, k * 5 + 1 + 1 + 1, none⟩ = some v := ⟨_, by rw [cell_of_row wr _ _ _ 54 (0, 0) hblk]; exact Array.getElem?_eq_getElem (by omega)⟩
      obtain ⟨v4, e4⟩ : ∃ v, wr.cell? ⟨w.heap.size, k * 5 + 1 + 1 + 1 + 1, none⟩ = some v := ⟨_, by rw [cell_of_row wr _ _ _ 54 (0, 0) hblk]; exact Array.getElem?_eq_getElem (by omega)⟩
      have ef : ∀ j, wr.frozen? ⟨w.heap.size, j, none⟩ = false := fun j => frozen_of_row wr _ j _ 54 hblk
      have hB := hb k hlt
      have h2 := h20 k hlt
      have i0 : (0 : Int) ≤ (k : Int) := Int.natCast_nonneg _
      have i1 : (k : Int) < (n : Int) := by omega
      clear hp hb h20 hq hblk hA
      cases hAk : D.A k with
      | none =>
        rw [hAk] at q1 hB
        obtain ⟨hv0, hc0⟩ := hB.nil rfl
        have hz := hB.length
        rw [hv0, hc0] at q1
        have HK : Hid _ := hAk
        clear hAk hB
        go_wp2
        go_region_held3 (fun w' => w'.cell? ⟨b, o + k * 5, none⟩ = some (.string (D.key k)) ∧ w'.cell? ⟨b, o + k * 5 + 1, none⟩ = some (.slice none 0 0) ∧ w'.cell? ⟨b, o + k * 5 + 1 + 1, none⟩ = some (.int .i64 (D.off k)) ∧
            w'.cell? ⟨b, o + k * 5 + 1 + 1 + 1, none⟩ = some (.int .u32 (D.len k)) ∧ w'.cell? ⟨b, o + k * 5 + 1 + 1 + 1 + 1, none⟩ = some (.int .u32 (D.file k))) (go_keep)
          ((go_at_call 16; refine (clone_nil _).mono ?_; rintro e w' ⟨rfl, rfl⟩))
        go_wp2
        go_roundw
        case rel => exact ⟨k + 1, by omega, by go_num, by
          have hst := hP.step hlt none ⟨hz, fun h0 => by omega⟩ (by rw [HK.out])
          rw [hv0] at hst
          exact hst.drew⟩
        case measure => simp [intOf]; omega
      | some x =>
        rw [hAk] at q1 hB
        have hBw : Bytes wr (some x) (D.vn k) (D.vc k) (D.zs k) := hB.later hP.below
        have hz := hB.length
        have HK : Hid _ := hAk
        have hst := (hP.later ((Below.refl _ _).alloc (Nat.le_refl _) (.cells (Row .u8 (D.zs k)) 5))).step hlt (some ⟨wr.heap.size, 0, none⟩) ⟨hz, fun _ => ⟨wr.heap.size, rfl, hgl, heap_alloc_new wr _⟩⟩ (by rw [hAk]; rfl)
        rw [World.setCell_alloc_past _ _ _ _ (by exact hgl), World.setCell_alloc_past _ _ _ _ (by simpa using hgl), World.setCell_alloc_past _ _ _ _ (by simpa using hgl), World.setCell_alloc_past _ _ _ _ (by simpa using hgl), World.setCell_alloc_past _ _ _ _ (by simpa using hgl)] at hst
        have HST : Hid _ := hst
        clear hAk hB hst
        go_wp2
        go_region_held3 (fun w' => w'.cell? ⟨b, o + k * 5, none⟩ = some (.string (D.key k)) ∧ w'.cell? ⟨b, o + k * 5 + 1, none⟩ = some (.slice (some x) (D.vn k) (D.vc k)) ∧ w'.cell? ⟨b, o + k * 5 + 1 + 1, none⟩ = some (.int .i64 (D.off k)) ∧
            w'.cell? ⟨b, o + k * 5 + 1 + 1 + 1, none⟩ = some (.int .u32 (D.len k)) ∧ w'.cell? ⟨b, o + k * 5 + 1 + 1 + 1 + 1, none⟩ = some (.int .u32 (D.file k))) (go_keep)
          ((go_at_call 16; refine (clone_any x (D.vn k) (D.vc k) (D.zs k) _ h2 (by exact hBw.later ((Below.refl _ _).drew))).mono ?_; rintro e w' ⟨rfl, rfl⟩))
        go_wp2
        go_roundw
        case rel => exact ⟨k + 1, by omega, by go_num, (HST.out).drew⟩
        case measure => simp [intOf]; omega
    · go_wp2
      go_ret
      obtain rfl : k = n := by omega
      exact ⟨rfl, hP⟩

end Go.Proofs.Qxb6612907a
