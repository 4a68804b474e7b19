import Derived.Test.Qxb6612907aRound
namespace Go.Proofs.Qxb6612907a
open Go.RowKit

set_option maxHeartbeats 2000000 in
theorem main3 (A : Option Addr) (b o n c : Nat) (D : Dat) (w : World) (hA : 0 < n → A = some ⟨b, o, none⟩) (hm : n ≤ maxLen)
    (hp : ∀ k, k < n → PairAt w b (o + k * 5) (D.key k) (D.A k) (D.vn k) (D.vc k) (D.off k) (D.len k) (D.file k)) (hb : ∀ k, k < n → Bytes w (D.A k) (D.vn k) (D.vc k) (D.zs k)) :
    Calls Try.prog 3 #[.slice A n c] w fun e w' => e = .returned (.bool true) ∧ Below w.heap.size w w' := by
  go_enter Try.func3, Try.ntmps3
  go_wp2_with fail
  refine (bound6 A b o n c D w hA hm hp).mono ?_
  rintro e w' ⟨hr, rfl⟩
  unfold maxLen at hm
  rcases hr with rfl | ⟨rfl, hsm⟩
  · go_wp2
    go_ret
    exact ⟨rfl, Below.refl _ _⟩
  by_cases h16 : n ≤ 65536
  · go_wp2_with fail
    go_loopw [3, 4] (fun t i wr => ∃ k : Nat, ∃ z : Int, ∃ q, k ≤ n ∧ i = .int .i64 k ∧ t = .int .i64 z ∧ wr = w'.drewN q) (fun _ i _ => n - (intOf i).toNat)
    case atStart => exact ⟨0, 0, 0, Nat.zero_le _, rfl, rfl, rfl⟩
    case round =>
      obtain ⟨k, z, q, hk, rfl, rfl, rfl⟩ := hrel
      by_cases hlt : k < n
      · obtain rfl := hA (by omega)
        have q0 := (hp k hlt).c0
        have q1 := (hp k hlt).c1
        have hs := hsm k hlt
        obtain ⟨hs0, hs1⟩ := hs
        have i1 : (k : Int) < (n : Int) := by omega
        clear hp hA hb hsm
        go_wp2
        go_quiet (fail)
        go_wp2
        · go_ret
          exact ⟨rfl, below_drewN (Below.refl _ _) _⟩
        · go_roundw
          case rel => exact ⟨k + 1, _, _, by omega, by go_num, rfl, rfl⟩
          case measure => simp [intOf]; omega
      · go_wp2_with fail
        refine (toPairs A b o n c D (w'.drewN q) h16 hA (fun k hk => ⟨(hp k hk).c0, (hp k hk).c1, (hp k hk).c2, (hp k hk).c3, (hp k hk).c4⟩) (fun k hk => (hb k hk).later (below_drewN (Below.refl _ _) _)) (fun k hk => (hsm k hk).2)).mono ?_
        rintro e W1 ⟨rfl, hP0⟩
        have hP : Pairs w' w'.heap.size n n D W1 := ⟨hP0.blk, hP0.done, (below_drewN (Below.refl _ _) q).trans hP0.below⟩
        clear hP0
        go_wp2_with fail
        refine (new7 _ _ _ _).mono ?_
        rintro e w1' ⟨rfl, rfl⟩
        have hgW : w'.heap.size < W1.heap.size := by obtain ⟨PC, h1, _⟩ := hP.blk; exact lt_of_heap h1
        have hW1 : Below w'.heap.size w' W1 := hP.below
        go_wp2_with fail
        go_loopw [6] (fun i wr => ∃ k : Nat, k ≤ n ∧ i = .int .i64 k ∧ Left W1 W1.heap.size (.func (.func 22) #[] #[]) w'.heap.size n k (lastKey D k) wr) (fun i _ => n - (intOf i).toNat)
        case atStart => exact ⟨0, Nat.zero_le _, rfl, some ⟨w'.heap.size, 0, none⟩, none, 0, fun _ => by simp, heap_alloc1 _ _, World.ownsRow_nil _ _ _ _, (Below.refl _ _).alloc (Nat.le_refl _) _⟩
        case round =>
          obtain ⟨j, hj, rfl, hL⟩ := hrel
          by_cases hjn : j < n
          · obtain rfl := hA (by omega)
            have hbl : b < w'.heap.size := World.block_lt_of_cell? _ _ (hp j hjn).c0
            go_wp2_with fail
            refine (call_left hL hjn rfl hP hsm).mono ?_
            rintro e w2 ⟨KA, kc, VA, rfl, hL', hY⟩
            have hw2 : Below w'.heap.size w' w2 := hW1.trans (hL'.below.mono (by omega))
            have hq := (hp j hjn).later hw2 hbl
            have hB := (hb j hjn).later hw2
            have hbl2 : b < w2.heap.size := by have := hw2.size; omega
            have q0 := hq.c0
            have q1 := hq.c1
            have q2 := hq.c2
            have q3 := hq.c3
            have q4 := hq.c4
            have HY : Hid _ := hY
            have i1 : (j : Int) < (n : Int) := by omega
            clear hY hp hA hb hsm hq hL hW1 hw2
            go_wp2_with fail
            have hbX : Below w2.heap.size w2 (w2.alloc (.cells #[.int .i64 (D.off j), .int .u32 (D.len j), .int .u32 (D.file j)] 34)) := (Below.refl _ _).alloc (Nat.le_refl _) _
            have hfar : ∀ (X w3 : World), Below X.heap.size X w3 → b < X.heap.size → ∀ i, w3.cell? ⟨b, i, none⟩ = X.cell? ⟨b, i, none⟩ := fun X w3 h hb i => h.cell (p := ⟨b, i, none⟩) hb
            have hfar2 : ∀ (X w3 : World), Below X.heap.size X w3 → w2.heap.size < X.heap.size → ∀ i, w3.cell? ⟨w2.heap.size, i, none⟩ = X.cell? ⟨w2.heap.size, i, none⟩ := fun X w3 h hb i => h.cell (p := ⟨w2.heap.size, i, none⟩) hb
            go_region_held3 (fun x => x.cell? ⟨b, o + j * 5, none⟩ = some (.string (D.key j)) ∧ x.cell? ⟨b, o + j * 5 + 1, none⟩ = some (.slice (D.A j) (D.vn j) (D.vc j)) ∧ x.cell? ⟨b, o + j * 5 + 1 + 1, none⟩ = some (.int .i64 (D.off j)) ∧
                x.cell? ⟨b, o + j * 5 + 1 + 1 + 1, none⟩ = some (.int .u32 (D.len j)) ∧ x.cell? ⟨b, o + j * 5 + 1 + 1 + 1 + 1, none⟩ = some (.int .u32 (D.file j)) ∧
                x.cell? ⟨w2.heap.size, 0, none⟩ = some (.int .i64 (D.off j)) ∧ x.cell? ⟨w2.heap.size, 1, none⟩ = some (.int .u32 (D.len j)) ∧ x.cell? ⟨w2.heap.size, 2, none⟩ = some (.int .u32 (D.file j)))
              (first | go_keep | (refine ⟨?_, ?_, ?_, ?_, ?_, ?_, ?_, ?_⟩ <;> (first | (rw [hfar _ _ hw3 (by simp; omega)]; go_keep) | (rw [hfar2 _ _ hw3 (by simp)]; go_keep))))
              ((go_at_call 10; refine Calls.mono (HY.out _ _ _ (by exact hbX.drew) rfl (by exact hB.later hbX.drew)) ?_; rintro e w3 ⟨rfl, hw3⟩))
            have hl3 := hL'.later (hbX.drew.trans (hw3.mono (by simp)))
            clear hfar hfar2 hbX hw3 hL' HY hB
            go_wp2
            go_roundw
            case rel => exact ⟨j + 1, by omega, by go_num, hl3⟩
            case measure => simp [intOf]; omega
          · obtain rfl : j = n := by omega
            obtain ⟨A2, KA2, kc2, _, hS⟩ := hL
            rw [Nat.sub_self] at hS
            have hSb := hS.below
            have hneq : ∀ (w : World) (a : Option Addr) (n c n' c' : Nat), (binOp .neq 24 (.slice a n c) (.slice none n' c')).run Try.prog w = .ok (.bool (!a.isNone)) w := fun w a n c n' c' => run_neq_slice_nil_any w _ _ a n c n' c' Try.underlying24
            cases j with
            | zero =>
              go_wp2_with fail
              refine wp_loop_rounds 3 ?_
              rw [rounds_succ]
              go_wp2_with fail
              refine (step_last hS).mono ?_
              rintro e w2 ⟨rfl, hS2⟩
              go_wp2_with fail
              rw [rounds_succ]
              go_wp2_with fail
              have hS2' := hS2.later ((Below.refl _ _).alloc (Nat.le_refl _) (.cells #[.int .i64 0, .int .u32 0, .int .u32 0] 34))
              refine (step_done hS2').mono ?_
              rintro e w3 ⟨rfl, hS3⟩
              go_wp2_with fail
              rw [rounds_succ]
              go_wp2_with fail
              have hS3' := hS3.later ((Below.refl _ _).alloc (Nat.le_refl _) (.cells #[.int .i64 0, .int .u32 0, .int .u32 0] 34))
              have hend : Below w'.heap.size w' (w3.alloc (.cells #[.int .i64 0, .int .u32 0, .int .u32 0] 34)) := hW1.trans (hS3'.below.mono (by omega))
              refine (key12 hS3').mono ?_
              rintro e w4 ⟨rfl, rfl⟩
              go_wp2_with fail
              refine (keyText hS3' (Nat.zero_le _)).mono ?_
              rintro e w4 ⟨rfl, q4, rfl⟩
              go_wp2_with fail
              go_ret
              exact ⟨rfl, below_drewN hend _⟩
            | succ m =>
              obtain rfl := hA (by omega)
              have hbl : b < w'.heap.size := World.block_lt_of_cell? _ _ (hp m (by omega)).c0
              have hw2 : Below w'.heap.size w' wr := hW1.trans (hSb.mono (by omega))
              have q0 := ((hp m (by omega)).later hw2 hbl).c0
              go_wp2_with fail
              refine wp_loop_rounds 3 ?_
              rw [rounds_succ]
              go_wp2_with fail
              refine (step_last hS).mono ?_
              rintro e w2 ⟨rfl, hS2⟩
              go_wp2_with fail
              rw [rounds_succ]
              go_wp2_with fail
              have hS2' := hS2.later ((Below.refl _ _).alloc (Nat.le_refl _) (.cells #[.int .i64 0, .int .u32 0, .int .u32 0] 34))
              refine (step_done hS2').mono ?_
              rintro e w3 ⟨rfl, hS3⟩
              go_wp2_with fail
              rw [rounds_succ]
              go_wp2_with fail
              have hS3' := hS3.later ((Below.refl _ _).alloc (Nat.le_refl _) (.cells #[.int .i64 0, .int .u32 0, .int .u32 0] 34))
              have hend : Below w'.heap.size w' (w3.alloc (.cells #[.int .i64 0, .int .u32 0, .int .u32 0] 34)) := hW1.trans (hS3'.below.mono (by omega))
              refine (key12 hS3').mono ?_
              rintro e w4 ⟨rfl, rfl⟩
              go_wp2_with fail
              refine (keyText hS3' (hsm m (by omega)).1).mono ?_
              rintro e w4 ⟨rfl, q4, rfl⟩
              go_wp2_with fail
              go_ret
              exact ⟨rfl, below_drewN hend _⟩
  · go_wp2
    go_ret
    exact ⟨rfl, Below.refl _ _⟩

end Go.Proofs.Qxb6612907a
