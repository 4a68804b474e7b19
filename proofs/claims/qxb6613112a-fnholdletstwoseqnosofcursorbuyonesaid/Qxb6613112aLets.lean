import Derived.Test.Qxb6613112aRows
import Derived.WalkKit
import Derived.ProofKit
import Derived.BigQuiet
namespace Go.Proofs.Qxb6613112a
open Go.RowKit

/-- What lets says. -/
def letsB (lag start high at' : Int) : Bool := decide ((at' - start) / 2 < lag ∧ high < at' + lag - (at' - start) / 2)

set_option maxHeartbeats 1000000 in
/-- (*hold).lets, where nothing wraps. -/
theorem lets6 (gh : Nat) (lag start high at' : Int) (w : World) (c1 : w.cell? ⟨gh, 1, none⟩ = some (.int .u64 lag)) (c2 : w.cell? ⟨gh, 2, none⟩ = some (.int .u64 start)) (h0 : 0 ≤ start) (h1 : start ≤ at') (h2 : 0 ≤ lag) (h3 : at' + lag ≤ 18446744073709551615) :
    Calls Try.prog 6 #[.pointer (some ⟨gh, 0, none⟩), .int .u64 high, .int .u64 at'] w fun e w' => e = .returned (.bool (letsB lag start high at')) ∧ w = w' := by
  have e1 : IntKind.u64.wrap (at' - start) = at' - start := by rw [IntKind.wrap_u64]; omega
  have e2 : IntKind.u64.wrap (at' + lag) = at' + lag := by rw [IntKind.wrap_u64]; omega
  have e3 : IntKind.u64.wrap ((at' - start).tdiv 2) = (at' - start) / 2 := by rw [Int.tdiv_eq_ediv_of_nonneg (by omega), IntKind.wrap_u64]; omega
  by_cases hg : (at' - start) / 2 < lag
  · have e4 : IntKind.u64.wrap (at' + lag - (at' - start) / 2) = at' + lag - (at' - start) / 2 := by rw [IntKind.wrap_u64]; omega
    go_enter Try.func6, Try.ntmps6
    go_wp2
    go_ret
    exact ⟨by simp [letsB, hg], rfl⟩
  · go_enter Try.func6, Try.ntmps6
    go_wp2
    go_ret
    have hd : letsB lag start high at' = false := decide_eq_false (fun h => by have := h.1; omega)
    rw [hd]
    exact ⟨rfl, rfl⟩

set_option maxHeartbeats 1000000 in
/-- ZZholdLets. -/
theorem lets5 (gh : Nat) (lag start high at' : Int) (w : World) (c1 : w.cell? ⟨gh, 1, none⟩ = some (.int .u64 lag)) (c2 : w.cell? ⟨gh, 2, none⟩ = some (.int .u64 start)) (h0 : 0 ≤ start) (h1 : start ≤ at') (h2 : 0 ≤ lag) (h3 : at' + lag ≤ 18446744073709551615) :
    Calls Try.prog 5 #[.pointer (some ⟨gh, 0, none⟩), .int .u64 high, .int .u64 at'] w fun e w' => e = .returned (.bool (letsB lag start high at')) ∧ w = w' := by
  go_enter Try.func5, Try.ntmps5
  go_wp2_with fail
  refine (lets6 gh lag start high at' w c1 c2 h0 h1 h2 h3).mono ?_
  rintro e w' ⟨rfl, rfl⟩
  go_wp2_with fail
  go_ret
  exact ⟨rfl, rfl⟩

end Go.Proofs.Qxb6613112a
