/- A row of integers as a block's cells; small lemmas on it. No Go in sight. -/
import Derived.WalkKit
namespace Go.Proofs.Qxb6612907a

/-- The cells of a block that holds the numbers 'zs' of kind k. -/
def Row (k : IntKind) (zs : List Int) : Array Value := (zs.map (Value.int k)).toArray

theorem Row_get (k : IntKind) (zs : List Int) (i : Nat) (h : i < zs.length) : (Row k zs)[i]? = some (.int k (zs.getD i 0)) := by
  simp [Row, h]

theorem Row_set (k : IntKind) (zs : List Int) (i : Nat) (v : Int) : (Row k zs).setIfInBounds i (.int k v) = Row k (zs.set i v) := by
  simp [Row]

theorem Row_size (k : IntKind) (zs : List Int) : (Row k zs).size = zs.length := by simp [Row]

theorem Row_made (k : IntKind) (n : Nat) : madeCells (Value.int k 0).cells (n * 1) = Row k (List.replicate n 0) := by
  apply Array.ext'
  rw [show (Value.int k 0).cells = #[.int k 0] from rfl, toList_madeCells_one]
  simp [Row]

/-- One more number copied. -/
theorem copy_step (zs : List Int) (n k : Nat) (hz : zs.length = n) (hk : k < n) :
    (zs.take k ++ List.replicate (n - k) 0).set k (zs.getD k 0) = zs.take (k + 1) ++ List.replicate (n - (k + 1)) 0 := by
  have hl : (zs.take k).length = k := by simp; omega
  rw [List.set_append_right _ _ (by omega), hl, Nat.sub_self]
  obtain ⟨m, hm⟩ : ∃ m, n - k = m + 1 := ⟨n - k - 1, by omega⟩
  rw [hm, List.replicate_succ, List.set_cons_zero, List.take_succ_eq_append_getElem (by omega), List.append_assoc]
  have : n - (k + 1) = m := by omega
  rw [this]
  simp [List.getD, (by omega : k < zs.length)]

end Go.Proofs.Qxb6612907a
