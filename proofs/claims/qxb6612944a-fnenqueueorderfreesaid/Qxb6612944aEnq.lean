import Derived.Test.Qxb6612944aMeth
namespace Go.Proofs.Qxb6612944a
open Go.RowKit

set_option maxRecDepth 100000 in
set_option maxHeartbeats 2000000 in
/-- (*client).enqueue. -/
theorem enqueue14 (B gc c u : Nat) (A : Option Addr) (q : Queue) (sd s p : Int) (w : World) (h : QAt B gc A c q u sd w) (hT : TailSorted q u) (hn : q.length ≤ 4200) :
    Calls Try.prog 14 #[.pointer (some ⟨gc, 0, none⟩), evV s p] w fun e w' => e = .returned (.tuple #[]) ∧ (∃ A' c', QAt B gc A' c' (enq sd q u s p).1 (enq sd q u s p).2 sd w') ∧ Below B w w' ∧ KeptQ gc (Value.ownBlock (.slice A q.length c)) w w' := by
  have hgc := lt_of_heap h.blk
  have hB := h.hB
  have c11 : w.cell? ⟨gc, 11, none⟩ = some (.int .u64 sd) := by rw [cell_of_row w gc 11 _ 60 (0, 0) h.blk]; rfl
  have hal : Below w.heap.size w (w.alloc (.cells (evCells s p).toArray 36)) := (Below.refl w.heap.size w).alloc (Nat.le_refl _) _
  by_cases hs : s = sd
  · have henq : enq sd q u s p = (q, u) := enq_no (.inl hs)
    have HE : Hid _ := henq
    have hne : (s != sd) = false := by simp [hs]
    have H := h
    clear h henq hs
    go_enter Try.func14, Try.ntmps14
    go_wp2
    go_quiet (fail)
    go_wp2
    go_end0
    refine ⟨rfl, ?_, (below_drewN hal _).mono (by omega), keptQ_below (below_drewN hal _)⟩
    rw [HE.out]
    exact ⟨A, c, H.later (below_drewN hal _)⟩
  · have hne : (s != sd) = true := by simp [hs]
    have H := h
    have HS : Hid _ := hs
    clear h hs
    go_enter Try.func14, Try.ntmps14
    go_wp2
    go_quiet (fail)
    go_wp2
    go_region_with (go_at_call 15; refine (insert15 B gc c u A q sd s p _ (by exact H.later (below_drewN hal _)) hT hn HS.out).mono ?_; rintro e w2 ⟨rfl, hq2, hb2, hk2⟩)
    all_goals (
      go_wp2
      go_end0
      exact ⟨rfl, hq2, ((below_drewN hal _).mono (by omega)).trans hb2, hk2.after (below_drewN hal _)⟩)

set_option maxRecDepth 100000 in
set_option maxHeartbeats 2000000 in
/-- ZZenqueue. -/
theorem enqueue10 (B gc c u : Nat) (A : Option Addr) (q : Queue) (sd s p : Int) (w : World) (h : QAt B gc A c q u sd w) (hT : TailSorted q u) (hn : q.length ≤ 4200) :
    Calls Try.prog 10 #[.pointer (some ⟨gc, 0, none⟩), evV s p] w fun e w' => e = .returned (.tuple #[]) ∧ (∃ A' c', QAt B gc A' c' (enq sd q u s p).1 (enq sd q u s p).2 sd w') ∧ Below B w w' ∧ KeptQ gc (Value.ownBlock (.slice A q.length c)) w w' := by
  have hgc := lt_of_heap h.blk
  have hB := h.hB
  have hal : Below w.heap.size w (w.alloc (.cells (evCells s p).toArray 36)) := (Below.refl w.heap.size w).alloc (Nat.le_refl _) _
  go_enter Try.func10, Try.ntmps10
  go_wp2_with fail
  refine (enqueue14 B gc c u A q sd s p _ (by exact h.later hal) hT hn).mono ?_
  rintro e w2 ⟨rfl, hq2, hb2, hk2⟩
  go_wp2_with fail
  go_end0
  exact ⟨rfl, hq2, (hal.mono (by omega)).trans hb2, hk2.after hal⟩

set_option maxHeartbeats 1000000 in
/-- ZZqueueOf. -/
theorem queueOf11 (B gc c u : Nat) (A : Option Addr) (q : Queue) (sd : Int) (w : World) (h : QAt B gc A c q u sd w) :
    Calls Try.prog 11 #[.pointer (some ⟨gc, 0, none⟩)] w fun e w' => e = .returned (.tuple #[.slice A q.length c, .int .i64 u]) ∧ ∃ n, w' = w.drewN n := by
  have c9 : w.cell? ⟨gc, 9, none⟩ = some (.slice A q.length c) := by rw [cell_of_row w gc 9 _ 60 (0, 0) h.blk]; rfl
  have c10 : w.cell? ⟨gc, 10, none⟩ = some (.int .i64 u) := by rw [cell_of_row w gc 10 _ 60 (0, 0) h.blk]; rfl
  clear h
  go_enter Try.func11, Try.ntmps11
  go_wp2
  go_quiet (fail)
  go_wp2
  go_ret2
  exact ⟨rfl, _, rfl⟩

end Go.Proofs.Qxb6612944a
