import Derived.Test.Qxb6613114aRows
import Derived.WalkKit
import Derived.ProofKit
import Derived.WalkSpells
import Derived.WalkLawsBesides
import Derived.Below
import Derived.Laws.Externs
import Derived.Laws.CopyRow
import Derived.Laws.AppendOwn
import Derived.Lib.BytesEntry
namespace Go.Proofs.Qxb6613114a
open Go.RowKit

/-- The bytes zs lie at A in w. -/
structure Bytes (w : World) (A : Option Addr) (n : Nat) (zs : List Int) : Prop where
  length : zs.length = n
  cells : 0 < n → ∃ b o, A = some ⟨b, o, none⟩ ∧ (∀ i, i < n → w.cell? ⟨b, o + i, none⟩ = some (.int .u8 (zs.getD i 0)))

theorem Bytes.later {w w' : World} {A : Option Addr} {n : Nat} {zs : List Int} (h : Bytes w A n zs) (hb : Below w.heap.size w w') : Bytes w' A n zs :=
  ⟨h.length, fun h0 => by
    obtain ⟨b, o, hA, hc⟩ := h.cells h0
    exact ⟨b, o, hA, fun i hi => by rw [hb.cell (World.block_lt_of_cell? _ _ (hc i hi))]; exact hc i hi⟩⟩

theorem Bytes.nil {w : World} {n : Nat} {zs : List Int} (h : Bytes w none n zs) : n = 0 := by
  rcases Nat.eq_zero_or_pos n with h0 | h0
  · exact h0
  · obtain ⟨b, o, e, _⟩ := h.cells h0
    cases e

theorem Bytes.addr {w : World} {n : Nat} {a : Addr} {zs : List Int} (h : Bytes w (some a) n zs) : ∀ j x, zs[j]? = some x → w.cell? (a.add j) = some (.int .u8 x) := fun j x hj => by
  have hjl : j < zs.length := (List.getElem?_eq_some_iff.1 hj).1
  obtain ⟨b, o, e, hc⟩ := h.cells (by have := h.length; omega)
  cases e
  have e : (⟨b, o, none⟩ : Addr).add j = ⟨b, o + j, none⟩ := by unfold Addr.add; split <;> simp_all
  rw [e, hc j (by rw [← h.length]; exact hjl), List.getD_eq_getElem?_getD, hj]
  rfl

/-- The entries' reader at such a slice. -/
theorem run_bytesOf {w : World} {A : Option Addr} {n c : Nat} {zs : List Int} (h : Bytes w A n zs) : (Extern.Bytes.bytesOf (.slice A n c)).run Try.prog w = .ok ⟨(Lib.bytesOf zs).toArray⟩ w := by
  cases A with
  | none =>
    have hz : zs = [] := List.eq_nil_of_length_eq_zero (by rw [h.length]; exact h.nil)
    subst hz
    rfl
  | some a =>
    have hl := Lib.run_loadBytesX (P := Try.prog) w zs a .empty h.addr
    rw [h.length] at hl
    have he : (⟨ByteArray.empty.data ++ (Lib.bytesOf zs).toArray⟩ : ByteArray) = ⟨(Lib.bytesOf zs).toArray⟩ := by
      apply ByteArray.ext
      show (#[] : Array UInt8) ++ (Lib.bytesOf zs).toArray = (Lib.bytesOf zs).toArray
      simp
    rw [he] at hl
    exact hl

theorem run_compare {w : World} {A A' : Option Addr} {n c n' c' : Nat} {zs zs' : List Int} (h : Bytes w A n zs) (h' : Bytes w A' n' zs') :
    (callFunc 9 #[.slice A n c, .slice A' n' c']).run Try.prog w = .ok (.value (.int .i64 (Lib.compareBytes (Lib.bytesOf zs) (Lib.bytesOf zs')))) w := by
  rw [run_callFunc_extern Try.func9 (by kernel_rfl) (by kernel_rfl) (by kernel_rfl) (e := Extern.BytealgCompare.compare) (by kernel_rfl)]
  change Result.andThen (Sem.run Try.prog (do pure (goInt (Extern.BytealgCompare.cmp (← Extern.Bytes.bytesOf (.slice A n c)) (← Extern.Bytes.bytesOf (.slice A' n' c'))))) w) _ = _
  simp only [Sem.run_bind, Sem.run_pure, run_bytesOf h, run_bytesOf h', Result.andThen]
  rw [Lib.cmp_eq]
  rfl

/-- What 'passes' says. -/
def passesB (zs zs' : List Int) : Bool := decide (0 < zs'.length) && (decide (zs.length = 0) || decide (0 < Lib.compareBytes (Lib.bytesOf zs) (Lib.bytesOf zs')))

set_option maxHeartbeats 1000000 in
theorem compare8 {w : World} {A A' : Option Addr} {n c n' c' : Nat} {zs zs' : List Int} (h : Bytes w A n zs) (h' : Bytes w A' n' zs') :
    Calls Try.prog 8 #[.slice A n c, .slice A' n' c'] w fun e w' => e = .returned (.int .i64 (Lib.compareBytes (Lib.bytesOf zs) (Lib.bytesOf zs'))) ∧ w = w' := by
  have hr := run_compare (c := c) (c' := c') h h'
  clear h h'
  generalize Lib.compareBytes (Lib.bytesOf zs) (Lib.bytesOf zs') = k at *
  go_enter Try.func8, Try.ntmps8
  go_wp2_with fail
  go_ret
  exact ⟨rfl, rfl⟩

set_option maxHeartbeats 1000000 in
theorem passes7 {w : World} {A A' : Option Addr} {n c n' c' : Nat} {zs zs' : List Int} (h : Bytes w A n zs) (h' : Bytes w A' n' zs') :
    Calls Try.prog 7 #[.slice A n c, .slice A' n' c'] w fun e w' => e = .returned (.bool (passesB zs zs')) ∧ w = w' := by
  have hl := h.length
  have hl' := h'.length
  by_cases h0 : n' = 0
  · have hb : passesB zs zs' = false := by simp [passesB, hl', h0]
    rw [hb]
    subst h0
    clear h h' hb
    go_enter Try.func7, Try.ntmps7
    go_wp2_with fail
    go_ret
    exact ⟨rfl, rfl⟩
  · have i0 : (0 : Int) < (n' : Int) := by omega
    by_cases h1 : n = 0
    · have hb : passesB zs zs' = true := by simp [passesB, hl, hl', h1]; omega
      rw [hb]
      subst h1
      clear h h' hb
      go_enter Try.func7, Try.ntmps7
      go_wp2_with fail
      go_ret
      exact ⟨rfl, rfl⟩
    · have i1 : ((n : Int) == 0) = false := by simp [h1]
      have hb : passesB zs zs' = decide (0 < Lib.compareBytes (Lib.bytesOf zs) (Lib.bytesOf zs')) := by
        simp [passesB, hl, hl', h1]; omega
      rw [hb]
      have HC : Hid _ := compare8 (c := c) (c' := c') h h'
      clear h h' hb
      generalize Lib.compareBytes (Lib.bytesOf zs) (Lib.bytesOf zs') = k at *
      go_enter Try.func7, Try.ntmps7
      go_wp2_with fail
      refine Calls.mono HC.out ?_
      rintro e _ ⟨rfl, rfl⟩
      go_wp2_with fail
      go_ret
      exact ⟨rfl, rfl⟩

set_option maxHeartbeats 1000000 in
theorem passes6 {w : World} {A A' : Option Addr} {n c n' c' : Nat} {zs zs' : List Int} (h : Bytes w A n zs) (h' : Bytes w A' n' zs') :
    Calls Try.prog 6 #[.slice A n c, .slice A' n' c'] w fun e w' => e = .returned (.bool (passesB zs zs')) ∧ w = w' := by
  go_enter Try.func6, Try.ntmps6
  go_wp2_with fail
  refine (passes7 h h').mono ?_
  rintro e _ ⟨rfl, rfl⟩
  go_wp2_with fail
  go_ret
  exact ⟨rfl, rfl⟩

end Go.Proofs.Qxb6613114a
