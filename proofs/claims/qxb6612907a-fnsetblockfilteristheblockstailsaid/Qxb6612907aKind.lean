import Derived.Test.Qxb6612907aClone
namespace Go.Proofs.Qxb6612907a
open Go.RowKit

set_option maxHeartbeats 400000 in
theorem isKind_true (b o b' o' n c c' : Nat) (ys zs : List Int) (w : World) (hn : n ≤ 1048576) (hy : ys.length = n) (hz : zs.length = n)
   (hc : ∀ i, i < n → w.cell? ⟨b, o + i, none⟩ = some (.int .u8 (ys.getD i 0))) (hc' : ∀ i, i < n → w.cell? ⟨b', o' + i, none⟩ = some (.int .u8 (zs.getD i 0)))
   (heq : ∀ i, i < n → ys.getD i 0 = if i = 12 then 2 else zs.getD i 0) :
    Calls Try.prog 21 #[.slice (some ⟨b, o, none⟩) n c, .slice (some ⟨b', o', none⟩) n c'] w fun e w' => e = .returned (.bool true) ∧ w' = w := by
  go_enter Try.func21, Try.ntmps21
  go_wp2
  go_loop [5] (fun i => ∃ k : Nat, k ≤ n ∧ i = .int .i64 k) (fun i => n - (intOf i).toNat)
  case atStart => exact ⟨0, Nat.zero_le _, rfl⟩
  case round =>
    obtain ⟨k, hk, rfl⟩ := hrel
    by_cases hlt : k < n
    · have hcell := hc k hlt
      have hcell' := hc' k hlt
      have hk1 : k < ys.length := by omega
      have hk2 : k < zs.length := by omega
      have he := heq k hlt
      clear hc hc' heq
      by_cases h12 : k = 12
      · subst h12
        rw [if_pos rfl] at he
        rw [he] at hcell
        clear he
        go_wp2
        go_round
        case rel => exact ⟨12 + 1, by omega, by go_num⟩
        case measure => simp [intOf]; omega
      · rw [if_neg h12] at he
        rw [he] at hcell
        clear he
        have h12' : ((k : Int) == 12) = false := by simp; omega
        go_wp2
        go_round
        case rel => exact ⟨k + 1, by omega, by go_num⟩
        case measure => simp [intOf]; omega
    · go_wp2
      go_ret
      exact ⟨rfl, rfl⟩

end Go.Proofs.Qxb6612907a
