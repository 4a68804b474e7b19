import Derived.Test.Qxb6612944aInts
namespace Go.Proofs.Qxb6612944a
open Go.RowKit

set_option maxHeartbeats 1000000 in
/-- zzTailSorted. -/
theorem sorted6 (A : Option Addr) (n c u : Nat) (zs : List Int) (w : World) (h : Ints w .u64 A n zs) (hn : n ≤ 4200) (hu : u ≤ n) :
    Calls Try.prog 6 #[.slice A n c, .int .i64 u] w fun e w' => ((e = .returned (.bool true) ∧ ∀ i, u < i → i < n → zs.getD (i - 1) 0 ≤ zs.getD i 0) ∨ e = .returned (.bool false)) ∧ ∃ m, w' = w.drewN m := by
  obtain ⟨b, o, hA, hb, hc⟩ := h.parts
  clear h
  go_enter Try.func6, Try.ntmps6
  go_wp2
  go_loopw [5] (fun i wr => ∃ k : Nat, u ≤ k ∧ k ≤ n ∧ i = .int .i64 ((k : Int) + 1) ∧ Hid (∀ i, u < i → i ≤ k → i < n → zs.getD (i - 1) 0 ≤ zs.getD i 0) ∧ ∃ m, wr = w.drewN m) (fun i _ => n + 1 - (intOf i).toNat)
  case atStart => exact ⟨u, Nat.le_refl _, hu, rfl, fun i h1 h2 => by omega, 0, rfl⟩
  case round =>
    obtain ⟨k, hk1, hk2, rfl, HI, m, rfl⟩ := hrel
    by_cases hlt : k + 1 < n
    · obtain rfl := hA (by omega)
      have e0 := hc k (by omega)
      have e1 := hc (k + 1) hlt
      have i1 : (k : Int) + 1 < (n : Int) := by omega
      have i2 : (k : Int) < (n : Int) := by omega
      have i3 : (0 : Int) ≤ (k : Int) + 1 := by omega
      have i4 : ((k : Int) + 1).toNat = k + 1 := by omega
      obtain ⟨x, hx⟩ : ∃ x, x = zs.getD k 0 := ⟨_, rfl⟩
      obtain ⟨y, hy⟩ : ∃ y, y = zs.getD (k + 1) 0 := ⟨_, rfl⟩
      rw [← hx] at e0
      rw [← hy] at e1
      have HX : Hid _ := And.intro hx hy
      clear hc hA hx hy
      have hwk : IntKind.i64.wrap (k : Int) = (k : Int) := by rw [IntKind.wrap_i64]; omega
      have hwk1 : IntKind.i64.wrap ((k : Int) + 1 - 1) = (k : Int) := by rw [IntKind.wrap_i64]; omega
      by_cases hxy : y < x
      · go_wp2
        go_quiet (fail)
        go_wp2
        go_ret
        exact ⟨.inr rfl, by simp only [World.drewN_drewN]; exact ⟨_, rfl⟩⟩
      · go_wp2
        go_quiet (fail)
        go_wp2
        go_roundw
        case rel =>
          refine ⟨k + 1, by omega, by omega, by simp only [Value.int.injEq, true_and]; omega, fun i h1 h2 h3 => ?_, _, rfl⟩
          by_cases hik : i ≤ k
          · exact HI.out i h1 hik h3
          · obtain rfl : i = k + 1 := by omega
            rw [Nat.add_sub_cancel, ← HX.out.1, ← HX.out.2]; omega
        case measure => simp [intOf]; omega
    · go_wp2
      go_ret
      exact ⟨.inl ⟨rfl, fun i h1 h2 => HI.out i h1 (by omega) h2⟩, _, rfl⟩

set_option maxHeartbeats 2000000 in
/-- zzSameQueue at two tellings of one queue. -/
theorem same12 (g c cs cp u : Nat) (A SA PA : Option Addr) (q : Queue) (w : World) (hA : 0 < q.length → A = some ⟨g, 0, none⟩)
    (hev : ∀ j, j < q.length → EvAt w g (j * 10) (sq q j) (pr q j)) (hS : Ints w .u64 SA q.length (q.map (·.1))) (hP : Ints w .i64 PA q.length (q.map (·.2))) (hn : q.length ≤ 4300) :
    Calls Try.prog 12 #[.slice A q.length c, .int .i64 u, .slice SA q.length cs, .slice PA q.length cp, .int .i64 u] w fun e w' => e = .returned (.bool true) ∧ ∃ m, w' = w.drewN m := by
  obtain ⟨b, o, hSA, hb, hs⟩ := hS.parts
  obtain ⟨b2, o2, hPA, hb2, hp⟩ := hP.parts
  simp only [map_fst] at hs
  simp only [map_snd] at hp
  clear hS hP
  generalize hq : q.length = n at *
  have e1 : ∀ j, j < n → w.cell? ⟨g, j * 10 + 1, none⟩ = some (.int .u64 (sq q j)) := fun j hj => (hev j hj).c1
  have e2 : ∀ j, j < n → w.cell? ⟨g, j * 10 + 2, none⟩ = some (.int .i64 (pr q j)) := fun j hj => (hev j hj).c2
  clear hev
  go_enter Try.func12, Try.ntmps12
  go_wp2
  go_loopw [11] (fun i wr => ∃ k : Nat, k ≤ n ∧ i = .int .i64 k ∧ ∃ m, wr = w.drewN m) (fun i _ => n - (intOf i).toNat)
  case atStart => exact ⟨0, Nat.zero_le _, rfl, 0, rfl⟩
  case round =>
    obtain ⟨k, hk, rfl, m, rfl⟩ := hrel
    by_cases hlt : k < n
    · obtain rfl := hA (by omega)
      obtain rfl := hSA (by omega)
      obtain rfl := hPA (by omega)
      have f1 := e1 k hlt
      have f2 := e2 k hlt
      have f3 := hs k hlt
      have f4 := hp k hlt
      generalize sq q k = x at *
      generalize pr q k = y at *
      have i1 : (k : Int) < (n : Int) := by omega
      clear e1 e2 hs hp hA hSA hPA
      have d1 : (x != x) = false := by simp
      have d2 : (y != y) = false := by simp
      go_wp2
      go_quiet (fail)
      go_wp2
      go_roundw
      case rel => exact ⟨k + 1, by omega, by go_num, _, rfl⟩
      case measure => simp [intOf]; omega
    · go_wp2
      go_ret
      exact ⟨rfl, _, rfl⟩

end Go.Proofs.Qxb6612944a
