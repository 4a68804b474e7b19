import Derived.Test.Qxb6612944aInsert
import Derived.Deep.QuietTactic
import Derived.BigQuiet
namespace Go.Proofs.Qxb6612944a
open Go.RowKit

/-- An event as a value. -/
abbrev evV (s p : Int) : Value := .agg #[.string ⟨#[]⟩, .int .u64 s, .int .i64 p, .int .u64 0, .slice none 0 0, .string ⟨#[]⟩, .string ⟨#[]⟩, .string ⟨#[]⟩, .string ⟨#[]⟩, .slice none 0 0]

/-- Go's cmp.Compare. -/
def cmpI (s t : Int) : Int := if s < t then -1 else if t < s then 1 else 0

set_option maxHeartbeats 400000 in
theorem compare18 (s t : Int) (w : World) : Calls Try.prog 18 #[.int .u64 s, .int .u64 t] w fun e w' => e = .returned (.int .i64 (cmpI s t)) ∧ w' = w := by
  unfold cmpI
  by_cases h1 : s < t
  · rw [if_pos h1]
    go_enter Try.func18, Try.ntmps18
    go_wp2
    go_ret
    exact ⟨rfl, rfl⟩
  · rw [if_neg h1]
    by_cases h2 : t < s
    · rw [if_pos h2]
      go_enter Try.func18, Try.ntmps18
      go_wp2
      go_ret
      exact ⟨rfl, rfl⟩
    · rw [if_neg h2]
      go_enter Try.func18, Try.ntmps18
      go_wp2
      go_ret
      exact ⟨rfl, rfl⟩

set_option maxHeartbeats 400000 in
theorem clos17 (s p t : Int) (w : World) : Calls Try.prog 17 #[evV s p, .int .u64 t] w fun e w' => e = .returned (.int .i64 (cmpI s t)) ∧ Below w.heap.size w w' := by
  go_enter Try.func17, Try.ntmps17
  go_wp2_with (go_at_call 18; refine (compare18 s t _).mono ?_; rintro e w' ⟨rfl, rfl⟩)
  go_ret
  exact ⟨rfl, (Below.refl _ _).alloc (Nat.le_refl _) _⟩

set_option maxHeartbeats 400000 in
theorem clos25 (s p t : Int) (a : Nat) (w : World) (hc : w.cell? ⟨a, 0, none⟩ = some (.int .u64 t)) :
    Calls Try.prog 25 #[evV s p, .pointer (some ⟨a, 0, none⟩)] w fun e w' => e = .returned (.bool (s == t)) ∧ Below w.heap.size w w' := by
  have ha := World.block_lt_of_cell? _ _ hc
  go_enter Try.func25, Try.ntmps25
  go_wp2
  go_ret
  exact ⟨rfl, (Below.refl _ _).alloc (Nat.le_refl _) _⟩

set_option maxHeartbeats 400000 in
theorem clos21 (s p t : Int) (a : Nat) (w : World) (hc : w.cell? ⟨a, 1, none⟩ = some (.int .u64 t)) :
    Calls Try.prog 21 #[evV s p, .pointer (some ⟨a, 0, none⟩)] w fun e w' => e = .returned (.bool (decide (t < s))) ∧ Below w.heap.size w w' := by
  have ha := World.block_lt_of_cell? _ _ hc
  go_enter Try.func21, Try.ntmps21
  go_wp2
  go_ret
  exact ⟨rfl, (Below.refl _ _).alloc (Nat.le_refl _) _⟩

end Go.Proofs.Qxb6612944a
