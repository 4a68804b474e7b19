import Derived.Test.Qxb6613114aBytes
namespace Go.Proofs.Qxb6613114a

theorem cmp_longer : ∀ (a b : List UInt8), Lib.compareBytes (a ++ b) a = if b = [] then 0 else 1
  | [], [] => rfl
  | [], _ :: _ => rfl
  | x :: a, b => by
    have h := cmp_longer a b
    show Lib.compareBytes (x :: (a ++ b)) (x :: a) = _
    unfold Lib.compareBytes
    rw [if_neg (UInt8.lt_irrefl x), if_neg (UInt8.lt_irrefl x), h]

theorem cmp_shorter : ∀ (a b : List UInt8), Lib.compareBytes a (a ++ b) = if b = [] then 0 else -1
  | [], [] => rfl
  | [], _ :: _ => rfl
  | x :: a, b => by
    have h := cmp_shorter a b
    show Lib.compareBytes (x :: a) (x :: (a ++ b)) = _
    unfold Lib.compareBytes
    rw [if_neg (UInt8.lt_irrefl x), if_neg (UInt8.lt_irrefl x), h]

theorem bytesOf_append (a b : List Int) : Lib.bytesOf (a ++ b) = Lib.bytesOf a ++ Lib.bytesOf b := by simp [Lib.bytesOf]
theorem bytesOf_nil (a : List Int) : Lib.bytesOf a = [] ↔ a.length = 0 := by simp [Lib.bytesOf]

theorem longer_law (zs xs : List Int) : passesB (zs ++ xs) zs = (decide (0 < zs.length) && decide (0 < xs.length)) := by
  unfold passesB
  rw [bytesOf_append, cmp_longer]
  simp only [bytesOf_nil, List.length_append]
  rw [← Bool.decide_or, ← Bool.decide_and, ← Bool.decide_and]
  apply decide_eq_decide.2
  split <;> omega

theorem shorter_law (zs xs : List Int) : passesB zs (zs ++ xs) = (decide (zs.length = 0) && decide (0 < xs.length)) := by
  unfold passesB
  rw [bytesOf_append, cmp_shorter]
  simp only [bytesOf_nil, List.length_append]
  rw [← Bool.decide_or, ← Bool.decide_and, ← Bool.decide_and]
  apply decide_eq_decide.2
  split <;> omega

end Go.Proofs.Qxb6613114a
