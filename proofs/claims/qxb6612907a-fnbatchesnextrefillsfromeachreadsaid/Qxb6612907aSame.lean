import Derived.Test.Qxb6612907aClone
import Derived.Deep.QuietTactic
import Derived.BigQuiet
import Derived.Deep.RegionHeld3
namespace Go.Proofs.Qxb6612907a
open Go.RowKit

/-- The bytes of a string, as numbers. -/
def strInts (s : ByteArray) : List Int := s.data.toList.map fun b => (b.toNat : Int)

theorem strInts_length (s : ByteArray) : (strInts s).length = s.size := by simp [strInts]

theorem strInts_get (s : ByteArray) (i : Nat) (h : i < s.size) : (strInts s).getD i 0 = (s[i].toNat : Int) := by
  have h' : i < s.data.size := h
  simp only [strInts, List.getD, List.getElem?_map, Array.getElem?_toList]
  rw [Array.getElem?_eq_getElem h']
  rfl

set_option maxHeartbeats 400000 in
theorem sameText (A : Option Addr) (b o m c : Nat) (s : ByteArray) (w : World) (hm : m = s.size) (h20 : m ≤ 1048576) (hA : 0 < m → A = some ⟨b, o, none⟩)
    (hc : ∀ i, i < m → w.cell? ⟨b, o + i, none⟩ = some (.int .u8 ((strInts s).getD i 0))) :
    Calls Try.prog 11 #[.slice A m c, .string s] w fun e w' => e = .returned (.bool true) ∧ ∃ q, w' = w.drewN q := by
  subst hm
  go_enter Try.func11, Try.ntmps11
  go_wp2
  go_loopw [5] (fun i wr => ∃ k : Nat, k ≤ s.size ∧ i = .int .i64 k ∧ ∃ q, wr = w.drewN q) (fun i _ => s.size - (intOf i).toNat)
  case atStart => exact ⟨0, Nat.zero_le _, rfl, 0, rfl⟩
  case round =>
    obtain ⟨k, hk, rfl, q, rfl⟩ := hrel
    by_cases hlt : k < s.size
    · obtain rfl := hA (by omega)
      have hcell := hc k hlt
      rw [strInts_get s k hlt] at hcell
      have hlt' : (k : Int) < (s.size : Int) := by omega
      clear hc hA
      go_wp2
      go_quiet (fail)
      go_wp2
      go_roundw
      case rel => exact ⟨k + 1, by omega, by go_num, _, rfl⟩
      case measure => simp [intOf]; omega
    · go_wp2
      go_ret
      exact ⟨rfl, q, rfl⟩

set_option maxHeartbeats 400000 in
theorem sameBytes (A A' : Option Addr) (b o b' o' m c c' : Nat) (zs : List Int) (w : World) (h20 : m ≤ 1048576) (hA : 0 < m → A = some ⟨b, o, none⟩) (hA' : 0 < m → A' = some ⟨b', o', none⟩)
    (hc : ∀ i, i < m → w.cell? ⟨b, o + i, none⟩ = some (.int .u8 (zs.getD i 0))) (hc' : ∀ i, i < m → w.cell? ⟨b', o' + i, none⟩ = some (.int .u8 (zs.getD i 0))) :
    Calls Try.prog 24 #[.slice A m c, .slice A' m c'] w fun e w' => e = .returned (.bool true) ∧ ∃ q, w' = w.drewN q := by
  go_enter Try.func24, Try.ntmps24
  go_wp2
  go_loopw [5] (fun i wr => ∃ k : Nat, k ≤ m ∧ i = .int .i64 k ∧ ∃ q, wr = w.drewN q) (fun i _ => m - (intOf i).toNat)
  case atStart => exact ⟨0, Nat.zero_le _, rfl, 0, rfl⟩
  case round =>
    obtain ⟨k, hk, rfl, q, rfl⟩ := hrel
    by_cases hlt : k < m
    · obtain rfl := hA (by omega)
      obtain rfl := hA' (by omega)
      have hcell := hc k hlt
      have hcell' := hc' k hlt
      have hlt' : (k : Int) < (m : Int) := by omega
      generalize zs.getD k 0 = z at hcell hcell'
      clear hc hA hc' hA'
      go_wp2
      go_quiet (fail)
      go_wp2
      go_roundw
      case rel => exact ⟨k + 1, by omega, by go_num, _, rfl⟩
      case measure => simp [intOf]; omega
    · go_wp2
      go_ret
      exact ⟨rfl, q, rfl⟩

end Go.Proofs.Qxb6612907a
