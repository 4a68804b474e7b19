import Derived.Test.Qxb6612907aRep
namespace Go.Proofs.Qxb6612907a
open Go.RowKit

set_option maxHeartbeats 2000000 in
/-- The empty list. -/
theorem main4z (A : Option Addr) (c : Nat) (m : Int) (D : Dat) (w : World) :
    Calls Try.prog 4 #[.slice A 0 c, .int .i64 m] w fun e w' => e = .returned (.bool true) ∧ Below w.heap.size w w' := by
  have hneq : ∀ (w : World) (a : Option Addr) (n c n' c' : Nat), (binOp .neq 24 (.slice a n c) (.slice none n' c')).run Try.prog w = .ok (.bool (!a.isNone)) w := fun w a n c n' c' => run_neq_slice_nil_any w _ _ a n c n' c' Try.underlying24
  go_enter Try.func4, Try.ntmps4
  go_wp2_with fail
  refine (bound13 A 0 0 0 c D m w (fun h => by omega) (Nat.zero_le _) (fun k hk => by omega)).mono ?_
  rintro e w' ⟨hr, rfl⟩
  rcases hr with rfl | ⟨rfl, hsm⟩
  · go_wp2
    go_ret
    exact ⟨rfl, Below.refl _ _⟩
  by_cases hm0 : 0 ≤ m
  · by_cases hm1 : m ≤ 65536
    · obtain ⟨M, rfl⟩ := Int.eq_ofNat_of_zero_le hm0
      go_wp2_with fail
      refine wp_loop_rounds 1 ?_
      rw [rounds_succ]
      go_wp2_with fail
      refine (toPairs A 0 0 0 c D w' (by omega) (fun h => by omega) (fun k hk => by omega) (fun k hk => by omega) (fun k hk => by omega)).mono ?_
      rintro e W0 ⟨rfl, hP1⟩
      have hP := hP1.later ((Below.refl _ _).alloc (Nat.le_refl _) (.cells #[.slice (some ⟨w'.heap.size, 0, none⟩) 0 0] 30))
      clear hP1
      go_wp2_with fail
      refine (new14 _ _ _ _).mono ?_
      rintro e w1' ⟨rfl, rfl⟩
      have hgp : (W0.alloc (.cells #[.slice (some ⟨w'.heap.size, 0, none⟩) 0 0] 30)).cell? ⟨W0.heap.size, 0, none⟩ = some (.slice (some ⟨w'.heap.size, 0, none⟩) 0 0) := by rw [cell_of_row _ W0.heap.size 0 _ 30 (0, 0) (heap_alloc1 _ _)]; rfl
      have hsz : (W0.alloc (.cells #[.slice (some ⟨w'.heap.size, 0, none⟩) 0 0] 30)).heap.size = W0.heap.size + 1 := by simp
      have hst : BSt (W0.alloc (.cells #[.slice (some ⟨w'.heap.size, 0, none⟩) 0 0] 30)) (W0.heap.size + 1) (.func (.func 25) #[] #[.pointer (some ⟨W0.heap.size, 0, none⟩)]) none 0 0 false none 0 0 [] ((W0.alloc (.cells #[.slice (some ⟨w'.heap.size, 0, none⟩) 0 0] 30)).alloc (.cells #[.func (.func 25) #[] #[.pointer (some ⟨W0.heap.size, 0, none⟩)], .slice none 0 0, .bool false, .slice none 0 0] 52)) :=
        ⟨by rw [← hsz]; exact heap_alloc1 _ _, World.ownsRow_nil _ _ _ _, (Below.refl _ _).alloc (by omega) _⟩
      generalize W0.alloc (.cells #[.slice (some ⟨w'.heap.size, 0, none⟩) 0 0] 30) = W1 at *
      have hgW : w'.heap.size < W1.heap.size := by obtain ⟨PC, h1, _⟩ := hP.blk; exact lt_of_heap h1
      have hW1 : Below w'.heap.size w' W1 := hP.below
      have HZ : Hid _ := hsz
      have hsz' : w'.heap.size ≤ W0.heap.size + 1 := by omega
      clear hsz
      go_wp2_with fail
      go_loopw [8] (fun i wr => ∃ j : Nat, j ≤ M ∧ i = .int .i64 j ∧ ∃ A' r' done, BSt W1 (W0.heap.size + 1) (.func (.func 25) #[] #[.pointer (some ⟨W0.heap.size, 0, none⟩)]) A' 0 r' done none 0 0 [] wr) (fun i _ => M - (intOf i).toNat)
      case atStart => exact ⟨0, Nat.zero_le _, rfl, none, 0, false, hst⟩
      case round =>
        obtain ⟨j, hj, rfl, A', r', done, hS⟩ := hrel
        by_cases hjn : j < M
        · cases done with
          | false =>
            go_wp2_with fail
            refine (step_refill_empty hS hgp (by have := World.block_lt_of_cell? _ _ hgp; simp at this; omega)).mono ?_
            rintro e w2 ⟨rfl, hS2⟩
            have hS3 := hS2.later ((Below.refl _ _).alloc (Nat.le_refl _) (.cells #[.int .i64 0, .int .u32 0, .int .u32 0] 34))
            go_wp2_with fail
            go_roundw
            case rel => exact ⟨j + 1, by omega, by go_num, _, _, _, hS3⟩
            case measure => simp [intOf]; omega
          | true =>
            go_wp2_with fail
            refine (step_done hS).mono ?_
            rintro e w2 ⟨rfl, hS2⟩
            have hS3 := hS2.later ((Below.refl _ _).alloc (Nat.le_refl _) (.cells #[.int .i64 0, .int .u32 0, .int .u32 0] 34))
            go_wp2_with fail
            go_roundw
            case rel => exact ⟨j + 1, by omega, by go_num, _, _, _, hS3⟩
            case measure => simp [intOf]; omega
        · go_wp2_with fail
          go_ret
          exact ⟨rfl, hW1.trans (hS.below.mono hsz')⟩
    · have hm1' : 65536 < m := by omega
      go_wp2_with fail
      refine wp_loop_rounds 1 ?_
      rw [rounds_succ]
      go_wp2_with fail
      go_ret
      exact ⟨rfl, Below.refl _ _⟩
  · have hm0' : m < 0 := by omega
    go_wp2_with fail
    refine wp_loop_rounds 1 ?_
    rw [rounds_succ]
    go_wp2_with fail
    go_ret
    exact ⟨rfl, Below.refl _ _⟩

end Go.Proofs.Qxb6612907a
