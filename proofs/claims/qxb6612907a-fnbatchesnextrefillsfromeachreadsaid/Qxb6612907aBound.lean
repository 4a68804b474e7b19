import Derived.Test.Qxb6612907aToPairs
namespace Go.Proofs.Qxb6612907a
open Go.RowKit

/-- The first n pairs' keys and values are no longer than 1<<20. -/
def Small (D : Dat) (n : Nat) : Prop := ∀ j, j < n → (D.key j).size ≤ 1048576 ∧ D.vn j ≤ 1048576

theorem Small.step {D : Dat} {k : Nat} (h : Small D k) (h1 : (D.key k).size ≤ 1048576) (h2 : D.vn k ≤ 1048576) : Small D (k + 1) := fun j hj => by
  by_cases hjk : j < k
  · exact h j hjk
  · obtain rfl : j = k := by omega
    exact ⟨h1, h2⟩

set_option maxHeartbeats 1000000 in
theorem bound6 (A : Option Addr) (b o n c : Nat) (D : Dat) (w : World) (hA : 0 < n → A = some ⟨b, o, none⟩) (hm : n ≤ maxLen)
    (hp : ∀ k, k < n → PairAt w b (o + k * 5) (D.key k) (D.A k) (D.vn k) (D.vc k) (D.off k) (D.len k) (D.file k)) :
    Calls Try.prog 6 #[.slice A n c] w fun e w' => (e = .returned (.bool false) ∨ (e = .returned (.bool true) ∧ Small D n)) ∧ w' = w := by
  unfold maxLen at hm
  go_enter Try.func6, Try.ntmps6
  go_wp2
  · go_ret
    exact ⟨.inl rfl, rfl⟩
  go_loop [3, 4] (fun z i => ∃ k : Nat, ∃ t : Int, k ≤ n ∧ Small D k ∧ i = .int .i64 k ∧ 0 ≤ t ∧ t ≤ 1048576 ∧ z = .int .i64 t) (fun _ i => n - (intOf i).toNat)
  case atStart => exact ⟨0, n, Nat.zero_le _, fun j hj => absurd hj (Nat.not_lt_zero _), rfl, by omega, by omega, rfl⟩
  case round =>
    obtain ⟨k, t, hk, hsm, rfl, ht0, ht1, rfl⟩ := hrel
    by_cases hlt : k < n
    · obtain rfl := hA (by omega)
      have q0 := (hp k hlt).c0
      have q1 := (hp k hlt).c1
      clear hp hA
      go_wp2
      all_goals first | (go_ret; exact ⟨.inl rfl, rfl⟩) | skip
      go_round
      case rel => exact ⟨k + 1, _, by omega, hsm.step (by omega) (by omega), by go_num, by omega, by omega, rfl⟩
      case measure => simp [intOf]; omega
    · go_wp2
      go_ret
      obtain rfl : k = n := by omega
      exact ⟨.inr ⟨rfl, hsm⟩, rfl⟩

set_option maxHeartbeats 1000000 in
theorem bound13 (A : Option Addr) (b o n c : Nat) (D : Dat) (m : Int) (w : World) (hA : 0 < n → A = some ⟨b, o, none⟩) (hm : n ≤ maxLen)
    (hp : ∀ k, k < n → PairAt w b (o + k * 5) (D.key k) (D.A k) (D.vn k) (D.vc k) (D.off k) (D.len k) (D.file k)) :
    Calls Try.prog 13 #[.slice A n c, .int .i64 m] w fun e w' => (e = .returned (.bool false) ∨ (e = .returned (.bool true) ∧ Small D n)) ∧ w' = w := by
  unfold maxLen at hm
  go_enter Try.func13, Try.ntmps13
  go_wp2
  · go_ret
    exact ⟨.inl rfl, rfl⟩
  go_loop [5, 6] (fun z i => ∃ k : Nat, ∃ t : Int, k ≤ n ∧ Small D k ∧ i = .int .i64 k ∧ 0 ≤ t ∧ t ≤ 1048576 ∧ z = .int .i64 t) (fun _ i => n - (intOf i).toNat)
  case atStart => exact ⟨0, n, Nat.zero_le _, fun j hj => absurd hj (Nat.not_lt_zero _), rfl, by omega, by omega, rfl⟩
  case round =>
    obtain ⟨k, t, hk, hsm, rfl, ht0, ht1, rfl⟩ := hrel
    by_cases hlt : k < n
    · obtain rfl := hA (by omega)
      have q0 := (hp k hlt).c0
      have q1 := (hp k hlt).c1
      clear hp hA
      go_wp2
      all_goals first | (go_ret; exact ⟨.inl rfl, rfl⟩) | skip
      go_round
      case rel => exact ⟨k + 1, _, by omega, hsm.step (by omega) (by omega), by go_num, by omega, by omega, rfl⟩
      case measure => simp [intOf]; omega
    · go_wp2
      go_ret
      obtain rfl : k = n := by omega
      exact ⟨.inr ⟨rfl, hsm⟩, rfl⟩

end Go.Proofs.Qxb6612907a
