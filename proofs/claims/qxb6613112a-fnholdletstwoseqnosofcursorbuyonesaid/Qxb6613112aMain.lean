import Derived.Test.Qxb6613112aLets
namespace Go.Proofs.Qxb6613112a
open Go.RowKit

/-- The plain law. -/
theorem later_law (lag start high at' : Int) : letsB lag start (high + 1) (at' + 2) = (letsB lag start high at' && decide ((at' - start) / 2 + 1 < lag)) := by
  unfold letsB
  have e : (at' + 2 - start) / 2 = (at' - start) / 2 + 1 := by omega
  rw [e, ← Bool.decide_and]
  apply decide_eq_decide.2
  omega

theorem self_law (lag start at' : Int) : letsB lag start at' at' = decide ((at' - start) / 2 < lag) := by
  unfold letsB
  apply decide_eq_decide.2
  omega

set_option maxHeartbeats 1000000 in
theorem newHold4 (a0 : Bool) (lag start : Int) (w : World) : Calls Try.prog 4 #[.bool a0, .int .u64 lag, .int .u64 start] w fun e w' => e = .returned (.pointer (some ⟨w.heap.size, 0, none⟩)) ∧ w' = w.alloc (.cells #[.bool a0, .int .u64 lag, .int .u64 start] 28) := by
  go_enter Try.func4, Try.ntmps4
  go_wp2
  go_ret
  exact ⟨rfl, rfl⟩

set_option maxHeartbeats 1000000 in
theorem main3 (a0 : Bool) (lag start high at' : Int) (w : World) (h0 : 0 ≤ start) (h1 : start ≤ at') (h2 : 0 ≤ lag) (h3 : at' + lag ≤ 18446744073709551613) (h4 : 0 ≤ high) (h5 : high < 18446744073709551615) :
    Calls Try.prog 3 #[.bool a0, .int .u64 lag, .int .u64 start, .int .u64 high, .int .u64 at'] w fun e w' => e = .returned (.bool true) ∧ Grown w w' := by
  have n1 : ¬ at' < start := by omega
  have n2 : ¬ 18446744073709551613 < at' := by omega
  have n3 : ¬ 18446744073709551613 - at' < lag := by omega
  have e1 : IntKind.u64.wrap (18446744073709551613 - at') = 18446744073709551613 - at' := by rw [IntKind.wrap_u64]; omega
  have e2 : IntKind.u64.wrap (at' - start) = at' - start := by rw [IntKind.wrap_u64]; omega
  have e3 : IntKind.u64.wrap ((at' - start).tdiv 2) = (at' - start) / 2 := by rw [Int.tdiv_eq_ediv_of_nonneg (by omega), IntKind.wrap_u64]; omega
  have e4 : IntKind.u64.wrap (high + 1) = high + 1 := by rw [IntKind.wrap_u64]; omega
  have e5 : IntKind.u64.wrap (at' + 2) = at' + 2 := by rw [IntKind.wrap_u64]; omega
  have e6 : IntKind.u64.wrap ((at' - start) / 2 + 1) = (at' - start) / 2 + 1 := by rw [IntKind.wrap_u64]; omega
  have n4 : ¬ high = 18446744073709551615 := by omega
  go_enter Try.func3, Try.ntmps3
  go_wp2_with fail
  refine (newHold4 a0 lag start w).mono ?_
  rintro e W1 ⟨rfl, hW1⟩
  have c1 : W1.cell? ⟨w.heap.size, 1, none⟩ = some (.int .u64 lag) := by rw [hW1, World.cell?_alloc_at _ _ _ _ rfl]; rfl
  have c2 : W1.cell? ⟨w.heap.size, 2, none⟩ = some (.int .u64 start) := by rw [hW1, World.cell?_alloc_at _ _ _ _ rfl]; rfl
  have hG : Grown w W1 := by rw [hW1]; exact (Grown.refl _).alloc _ _
  clear hW1
  go_wp2_with fail
  refine (lets5 w.heap.size lag start high at' W1 c1 c2 h0 h1 h2 (by omega)).mono ?_
  rintro e _ ⟨rfl, rfl⟩
  go_wp2_with fail
  refine (lets5 w.heap.size lag start (high + 1) (at' + 2) W1 c1 c2 h0 (by omega) h2 (by omega)).mono ?_
  rintro e _ ⟨rfl, rfl⟩
  rw [later_law]
  by_cases hg : (at' - start) / 2 + 1 < lag
  · have hd : decide ((at' - start) / 2 + 1 < lag) = true := by simp [hg]
    rw [hd, Bool.and_true]
    cases hb : letsB lag start high at' with
    | true =>
      clear hb
      go_wp2_with fail
      refine (lets5 w.heap.size lag start at' at' W1 c1 c2 h0 h1 h2 (by omega)).mono ?_
      rintro e _ ⟨rfl, rfl⟩
      rw [self_law]
      by_cases hg2 : (at' - start) / 2 < lag
      · have hd2 : decide ((at' - start) / 2 < lag) = true := by simp [hg2]
        rw [hd2]
        go_wp2_with fail
        go_ret
        exact ⟨rfl, hG⟩
      · have hd2 : decide ((at' - start) / 2 < lag) = false := by simp [hg2]
        rw [hd2]
        go_wp2_with fail
        go_ret
        exact ⟨rfl, hG⟩
    | false =>
      clear hb
      go_wp2_with fail
      refine (lets5 w.heap.size lag start at' at' W1 c1 c2 h0 h1 h2 (by omega)).mono ?_
      rintro e _ ⟨rfl, rfl⟩
      rw [self_law]
      by_cases hg2 : (at' - start) / 2 < lag
      · have hd2 : decide ((at' - start) / 2 < lag) = true := by simp [hg2]
        rw [hd2]
        go_wp2_with fail
        go_ret
        exact ⟨rfl, hG⟩
      · have hd2 : decide ((at' - start) / 2 < lag) = false := by simp [hg2]
        rw [hd2]
        go_wp2_with fail
        go_ret
        exact ⟨rfl, hG⟩
  · have hd : decide ((at' - start) / 2 + 1 < lag) = false := by simp [hg]
    rw [hd, Bool.and_false]
    cases hb : letsB lag start high at' with
    | true =>
      clear hb
      go_wp2_with fail
      refine (lets5 w.heap.size lag start at' at' W1 c1 c2 h0 h1 h2 (by omega)).mono ?_
      rintro e _ ⟨rfl, rfl⟩
      rw [self_law]
      by_cases hg2 : (at' - start) / 2 < lag
      · have hd2 : decide ((at' - start) / 2 < lag) = true := by simp [hg2]
        rw [hd2]
        go_wp2_with fail
        go_ret
        exact ⟨rfl, hG⟩
      · have hd2 : decide ((at' - start) / 2 < lag) = false := by simp [hg2]
        rw [hd2]
        go_wp2_with fail
        go_ret
        exact ⟨rfl, hG⟩
    | false =>
      clear hb
      go_wp2_with fail
      refine (lets5 w.heap.size lag start at' at' W1 c1 c2 h0 h1 h2 (by omega)).mono ?_
      rintro e _ ⟨rfl, rfl⟩
      rw [self_law]
      by_cases hg2 : (at' - start) / 2 < lag
      · have hd2 : decide ((at' - start) / 2 < lag) = true := by simp [hg2]
        rw [hd2]
        go_wp2_with fail
        go_ret
        exact ⟨rfl, hG⟩
      · have hd2 : decide ((at' - start) / 2 < lag) = false := by simp [hg2]
        rw [hd2]
        go_wp2_with fail
        go_ret
        exact ⟨rfl, hG⟩

end Go.Proofs.Qxb6613112a
