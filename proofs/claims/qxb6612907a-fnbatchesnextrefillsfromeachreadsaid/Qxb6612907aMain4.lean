import Derived.Test.Qxb6612907aRep
namespace Go.Proofs.Qxb6612907a
open Go.RowKit

set_option maxHeartbeats 2000000 in
/-- A list that is not empty. -/
theorem main4 (b o n c : Nat) (m : Int) (D : Dat) (w : World) (hn0 : 0 < n) (hm : n ≤ maxLen)
    (hp : ∀ k, k < n → PairAt w b (o + k * 5) (D.key k) (D.A k) (D.vn k) (D.vc k) (D.off k) (D.len k) (D.file k)) (hb : ∀ k, k < n → Bytes w (D.A k) (D.vn k) (D.vc k) (D.zs k)) :
    Calls Try.prog 4 #[.slice (some ⟨b, o, none⟩) n c, .int .i64 m] w fun e w' => e = .returned (.bool true) ∧ Below w.heap.size w w' := by
  have hbl : b < w.heap.size := World.block_lt_of_cell? _ _ (hp 0 hn0).c0
  go_enter Try.func4, Try.ntmps4
  go_wp2_with fail
  refine (bound13 _ b o n c D m w (fun _ => rfl) hm hp).mono ?_
  rintro e w' ⟨hr, rfl⟩
  unfold maxLen at hm
  rcases hr with rfl | ⟨rfl, hsm⟩
  · go_wp2
    go_ret
    exact ⟨rfl, Below.refl _ _⟩
  by_cases h16 : n ≤ 65536
  · go_wp2_with fail
    go_loopw [5, 6] (fun t i wr => ∃ k : Nat, ∃ z : Int, ∃ q, k ≤ n ∧ i = .int .i64 k ∧ t = .int .i64 z ∧ wr = w'.drewN q) (fun _ i _ => n - (intOf i).toNat)
    case atStart => exact ⟨0, 0, 0, Nat.zero_le _, rfl, rfl, rfl⟩
    case round =>
      obtain ⟨k, z, q, hk, rfl, rfl, rfl⟩ := hrel
      by_cases hlt : k < n
      · have q0 := (hp k hlt).c0
        have q1 := (hp k hlt).c1
        have hs := hsm k hlt
        obtain ⟨hs0, hs1⟩ := hs
        have i1 : (k : Int) < (n : Int) := by omega
        clear hp hb hsm
        go_wp2
        go_quiet (fail)
        go_wp2
        · go_ret
          exact ⟨rfl, below_drewN (Below.refl _ _) _⟩
        · go_roundw
          case rel => exact ⟨k + 1, _, _, by omega, by go_num, rfl, rfl⟩
          case measure => simp [intOf]; omega
      · by_cases hm0 : 0 ≤ m
        · by_cases hm1 : m ≤ 65536
          · obtain ⟨M, rfl⟩ := Int.eq_ofNat_of_zero_le hm0
            go_wp2_with fail
            refine (toPairs _ b o n c D (w'.drewN q) h16 (fun _ => rfl) (fun k hk => ⟨(hp k hk).c0, (hp k hk).c1, (hp k hk).c2, (hp k hk).c3, (hp k hk).c4⟩) (fun k hk => (hb k hk).later (below_drewN (Below.refl _ _) _)) (fun k hk => (hsm k hk).2)).mono ?_
            rintro e W0 ⟨rfl, hP0⟩
            have hP1 : Pairs w' w'.heap.size n n D W0 := ⟨hP0.blk, hP0.done, (below_drewN (Below.refl _ _) q).trans hP0.below⟩
            have hP := hP1.later ((Below.refl _ _).alloc (Nat.le_refl _) (.cells #[.slice (some ⟨w'.heap.size, 0, none⟩) n n] 30))
            clear hP0 hP1
            go_wp2_with fail
            refine (new14 _ _ _ _).mono ?_
            rintro e w1' ⟨rfl, rfl⟩
            have hgp : (W0.alloc (.cells #[.slice (some ⟨w'.heap.size, 0, none⟩) n n] 30)).cell? ⟨W0.heap.size, 0, none⟩ = some (.slice (some ⟨w'.heap.size, 0, none⟩) n n) := by rw [cell_of_row _ W0.heap.size 0 _ 30 (0, 0) (heap_alloc1 _ _)]; rfl
            have hsz : (W0.alloc (.cells #[.slice (some ⟨w'.heap.size, 0, none⟩) n n] 30)).heap.size = W0.heap.size + 1 := by simp
            have hst : RepSt (W0.alloc (.cells #[.slice (some ⟨w'.heap.size, 0, none⟩) n n] 30)) (W0.heap.size + 1) W0.heap.size w'.heap.size n 0 (repKey D n 0) ((W0.alloc (.cells #[.slice (some ⟨w'.heap.size, 0, none⟩) n n] 30)).alloc (.cells #[.func (.func 25) #[] #[.pointer (some ⟨W0.heap.size, 0, none⟩)], .slice none 0 0, .bool false, .slice none 0 0] 52)) :=
              ⟨0, none, none, 0, hn0, by simp, fun h => by omega, by rw [← hsz]; exact heap_alloc1 _ _, World.ownsRow_nil _ _ _ _, (Below.refl _ _).alloc (by omega) _⟩
            generalize W0.alloc (.cells #[.slice (some ⟨w'.heap.size, 0, none⟩) n n] 30) = W1 at *
            have hgW : w'.heap.size < W1.heap.size := by obtain ⟨PC, h1, _⟩ := hP.blk; exact lt_of_heap h1
            have hW1 : Below w'.heap.size w' W1 := hP.below
            have HZ : Hid _ := hsz
            have hsz' : w'.heap.size ≤ W0.heap.size + 1 := by omega
            clear hsz
            go_wp2_with fail
            go_loopw [8] (fun i wr => ∃ j : Nat, j ≤ M ∧ i = .int .i64 j ∧ RepSt W1 (W0.heap.size + 1) W0.heap.size w'.heap.size n j (repKey D n j) wr) (fun i _ => M - (intOf i).toNat)
            case atStart => exact ⟨0, Nat.zero_le _, rfl, hst⟩
            case round =>
              obtain ⟨j, hj, rfl, hL⟩ := hrel
              by_cases hjn : j < M
              · go_wp2_with fail
                refine (call_rep hL HZ.out.symm hP hsm hgp).mono ?_
                rintro e w2 ⟨KA, kc, VA, rfl, hL', hY⟩
                have hw2 : Below w'.heap.size w' w2 := hW1.trans (hL'.below.mono hsz')
                have hkn : j % n < n := Nat.mod_lt _ hn0
                have hq := (hp (j % n) hkn).later hw2 hbl
                have hB := (hb (j % n) hkn).later hw2
                have hbl2 : b < w2.heap.size := by have := hw2.size; omega
                have hkey : repKey D n (j + 1) = D.key (j % n) := rfl
                have hrem0 : ((j : Int) % (n : Int)) = ((j % n : Nat) : Int) := by simp
                have i4 : ¬ n = 0 := by omega
                have hrem1 : ((j : Int).tmod (n : Int)) = ((j % n : Nat) : Int) := rfl
                generalize hjk : j % n = i at *
                have HJ : Hid _ := hjk
                have HKEY : Hid _ := hkey
                have q0 := hq.c0
                have q1 := hq.c1
                have q2 := hq.c2
                have q3 := hq.c3
                have q4 := hq.c4
                have HY : Hid _ := hY
                have i1 : (i : Int) < (n : Int) := by omega
                have i2 : (0 : Int) < (n : Int) := by omega
                have i3 : ((n : Int) == 0) = false := by simp; omega
                clear hjk hkey hY hp hb hsm hq hL hW1 hw2 hst
                go_wp2_with fail
                have hbX : Below w2.heap.size w2 (w2.alloc (.cells #[.int .i64 (D.off i), .int .u32 (D.len i), .int .u32 (D.file i)] 34)) := (Below.refl _ _).alloc (Nat.le_refl _) _
                have hfar : ∀ (X w3 : World), Below X.heap.size X w3 → b < X.heap.size → ∀ i, w3.cell? ⟨b, i, none⟩ = X.cell? ⟨b, i, none⟩ := fun X w3 h hb i => h.cell (p := ⟨b, i, none⟩) hb
                have hfar2 : ∀ (X w3 : World), Below X.heap.size X w3 → w2.heap.size < X.heap.size → ∀ i, w3.cell? ⟨w2.heap.size, i, none⟩ = X.cell? ⟨w2.heap.size, i, none⟩ := fun X w3 h hb i => h.cell (p := ⟨w2.heap.size, i, none⟩) hb
                go_region_held3 (fun x => x.cell? ⟨b, o + i * 5, none⟩ = some (.string (D.key i)) ∧ x.cell? ⟨b, o + i * 5 + 1, none⟩ = some (.slice (D.A i) (D.vn i) (D.vc i)) ∧ x.cell? ⟨b, o + i * 5 + 1 + 1, none⟩ = some (.int .i64 (D.off i)) ∧
                    x.cell? ⟨b, o + i * 5 + 1 + 1 + 1, none⟩ = some (.int .u32 (D.len i)) ∧ x.cell? ⟨b, o + i * 5 + 1 + 1 + 1 + 1, none⟩ = some (.int .u32 (D.file i)) ∧
                    x.cell? ⟨w2.heap.size, 0, none⟩ = some (.int .i64 (D.off i)) ∧ x.cell? ⟨w2.heap.size, 1, none⟩ = some (.int .u32 (D.len i)) ∧ x.cell? ⟨w2.heap.size, 2, none⟩ = some (.int .u32 (D.file i)))
                  (first | go_keep | (refine ⟨?_, ?_, ?_, ?_, ?_, ?_, ?_, ?_⟩ <;> (first | (rw [hfar _ _ hw3 (by simp; omega)]; go_keep) | (rw [hfar2 _ _ hw3 (by simp)]; go_keep))))
                  ((go_at_call 10; refine Calls.mono (HY.out _ _ _ (by exact hbX.drew) rfl (by exact hB.later hbX.drew)) ?_; rintro e w3 ⟨rfl, hw3⟩))
                have hl3 := hL'.later (hbX.drew.trans (hw3.mono (by simp)))
                clear hfar hfar2 hbX hw3 hL' HY hB hrem0 hrem1
                go_wp2
                go_roundw
                case rel => exact ⟨j + 1, by omega, by go_num, by rw [HKEY.out]; exact hl3⟩
                case measure => simp [intOf]; omega
              · obtain rfl : j = M := by omega
                cases j with
                | zero =>
                  go_wp2_with fail
                  go_ret
                  exact ⟨rfl, hW1.trans (hL.below.mono hsz')⟩
                | succ j =>
                  obtain ⟨r, A2, KA2, kc2, _, _, _, hS⟩ := hL
                  have hkn : j % n < n := Nat.mod_lt _ hn0
                  have hSb : Below w'.heap.size w' wr := hW1.trans (hS.below.mono hsz')
                  have q0 := ((hp (j % n) hkn).later hSb hbl).c0
                  have hkey : repKey D n (j + 1) = D.key (j % n) := rfl
                  rw [hkey] at hS
                  have hk20 := (hsm (j % n) hkn).1
                  have hrem0 : ((j : Int) % (n : Int)) = ((j % n : Nat) : Int) := by simp
                  have i4 : ¬ n = 0 := by omega
                  have hrem1 : ((j : Int).tmod (n : Int)) = ((j % n : Nat) : Int) := rfl
                  generalize hjk : j % n = i at *
                  have HJ : Hid _ := hjk
                  have HKEY : Hid _ := hkey
                  have i1 : (i : Int) < (n : Int) := by omega
                  have i2 : (0 : Int) < (n : Int) := by omega
                  have i3 : ((n : Int) == 0) = false := by simp; omega
                  clear hjk hkey hp hb hsm hst
                  go_wp2_with fail
                  go_quiet ((first | (go_at_call 12; exact Calls.quiet_of_same (key12 (hS.later (below_drewN (Below.refl _ _) _)))) | (go_at_call 11; exact Calls.quiet_of (keyText (hS.later (below_drewN (Below.refl _ _) _)) hk20))))
                  go_wp2_with fail
                  go_ret
                  exact ⟨rfl, below_drewN hSb _⟩
          · have hm1' : 65536 < m := by omega
            go_wp2_with fail
            go_ret
            exact ⟨rfl, below_drewN (Below.refl _ _) _⟩
        · have hm0' : m < 0 := by omega
          go_wp2_with fail
          go_ret
          exact ⟨rfl, below_drewN (Below.refl _ _) _⟩
  · go_wp2
    go_ret
    exact ⟨rfl, Below.refl _ _⟩

end Go.Proofs.Qxb6612907a
