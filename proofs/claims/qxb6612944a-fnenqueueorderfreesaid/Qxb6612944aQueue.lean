import Derived.Test.Qxb6612944aIndex
import Derived.Test.Qxb6612944aModel
namespace Go.Proofs.Qxb6612944a
open Go.RowKit

/-- The cells of a queue's events. -/
def qCells (q : Queue) : List Value := q.flatMap fun x => evCells x.1 x.2

theorem evCells_length (s p : Int) : (evCells s p).length = 10 := rfl

theorem qCells_cons (x : Int × Int) (q : Queue) : qCells (x :: q) = evCells x.1 x.2 ++ qCells q := rfl

theorem qCells_append (a b : Queue) : qCells (a ++ b) = qCells a ++ qCells b := by simp [qCells]

theorem qCells_length : ∀ q : Queue, (qCells q).length = q.length * 10
  | [] => rfl
  | x :: r => by rw [qCells_cons, List.length_append, evCells_length, qCells_length r, List.length_cons]; omega

theorem qCells_take (q : Queue) (k : Nat) (hk : k ≤ q.length) : (qCells q).take (k * 10) = qCells (q.take k) := by
  have h : qCells q = qCells (q.take k) ++ qCells (q.drop k) := by rw [← qCells_append, List.take_append_drop]
  rw [h, List.take_append_of_le_length (by rw [qCells_length]; simp; omega), List.take_of_length_le (by rw [qCells_length]; simp; omega)]

theorem qCells_drop (q : Queue) (k : Nat) (hk : k ≤ q.length) : (qCells q).drop (k * 10) = qCells (q.drop k) := by
  have h : qCells q = qCells (q.take k) ++ qCells (q.drop k) := by rw [← qCells_append, List.take_append_drop]
  rw [h, List.drop_append_of_le_length (by rw [qCells_length]; simp; omega), List.drop_eq_nil_of_le (by rw [qCells_length]; simp; omega), List.nil_append]

theorem qCells_ins (q : Queue) (k : Nat) (x : Int × Int) (hk : k ≤ q.length) : qCells (ins q k x) = (qCells q).take (k * 10) ++ (evCells x.1 x.2 ++ (qCells q).drop (k * 10)) := by
  rw [ins, qCells_append, qCells_cons, qCells_take q k hk, qCells_drop q k hk]

theorem ev_oneCell (s p : Int) : ∀ u ∈ evCells s p, u.oneCell' = true := by
  intro u hu
  simp only [evCells, List.mem_cons, List.not_mem_nil, or_false] at hu
  rcases hu with rfl | rfl | rfl | rfl | rfl | rfl | rfl | rfl | rfl | rfl <;> rfl

theorem q_oneCell : ∀ (q : Queue), ∀ u ∈ qCells q, u.oneCell' = true
  | [], u, hu => by simp [qCells] at hu
  | x :: r, u, hu => by
    rw [qCells_cons, List.mem_append] at hu
    exact hu.elim (ev_oneCell x.1 x.2 u) (q_oneCell r u)

theorem qCells_get : ∀ (q : Queue) (j t : Nat), j < q.length → t < 10 → (qCells q)[j * 10 + t]? = (evCells (sq q j) (pr q j))[t]?
  | [], j, t, hj, _ => by simp at hj
  | x :: r, 0, t, _, ht => by
    rw [qCells_cons, List.getElem?_append_left (by rw [evCells_length]; omega)]
    simp [sq, pr]
  | x :: r, j + 1, t, hj, ht => by
    rw [qCells_cons, List.getElem?_append_right (by rw [evCells_length]; omega), evCells_length, show (j + 1) * 10 + t - 10 = j * 10 + t by omega, qCells_get r j t (by simpa using hj) ht]
    rfl

/-- An owned queue's events, one by one. -/
theorem ev_at {w : World} {B g n c : Nat} {q : Queue} (hown : w.ownsRow B 36 10 (.slice (some ⟨g, 0, none⟩) n c) n (qCells q)) (hn : n = q.length) (j : Nat) (hj : j < n) : EvAt w g (j * 10) (sq q j) (pr q j) := by
  have h : ∀ t, t < 10 → w.cell? ⟨g, j * 10 + t, none⟩ = (evCells (sq q j) (pr q j))[t]? := fun t ht => by
    rw [hown.cellAt _ (by omega), qCells_get q j t (by omega) ht]
  exact ⟨h 0 (by omega), h 1 (by omega), h 2 (by omega), h 3 (by omega), h 4 (by omega), h 5 (by omega), h 6 (by omega), h 7 (by omega), h 8 (by omega), h 9 (by omega)⟩

/-- The cells of a client with that queue. -/
abbrev cli (A : Option Addr) (n c : Nat) (u sd : Int) : Array Value := #[.int .u64 0, .int .u64 0, .pointer none, .int .u16 0, .slice none 0 0, .map none, .nilIface, .nilFunc, .int .i64 0, .slice A n c, .int .i64 u, .int .u64 sd, .int .i64 0, .bool false]

set_option maxHeartbeats 1000000 in
theorem newClient8 (A : Option Addr) (n c : Nat) (u sd : Int) (w : World) : Calls Try.prog 8 #[.slice A n c, .int .i64 u, .int .u64 sd] w fun e w' => e = .returned (.pointer (some ⟨w.heap.size, 0, none⟩)) ∧ w' = w.alloc (.cells (cli A n c u sd) 60) := by
  go_enter Try.func8, Try.ntmps8
  go_wp2
  go_ret
  exact ⟨rfl, rfl⟩

/-- The client at gc holds the queue q, u of it unordered; its row is of the call's own, from block B on. -/
structure QAt (B gc : Nat) (A : Option Addr) (c : Nat) (q : Queue) (u : Nat) (sd : Int) (w : World) : Prop where
  blk : w.heap[gc]? = some (.cells (cli A q.length c u sd) 60 (0, 0))
  own : w.ownsRow B 36 10 (.slice A q.length c) q.length (qCells q)
  hB : B ≤ gc

section
variable {B gc : Nat} {A : Option Addr} {c : Nat} {q : Queue} {u : Nat} {sd : Int} {w : World}

theorem QAt.later (h : QAt B gc A c q u sd w) {w' : World} (hb : Below w.heap.size w w') : QAt B gc A c q u sd w' := by
  refine ⟨by rw [hb.block gc (lt_of_heap h.blk)]; exact h.blk, ⟨h.own.1, ?_⟩, h.hB⟩
  rcases h.own.2 with h2 | ⟨g, cap, cur, hv, hg, hh, r⟩
  · exact .inl h2
  · exact .inr ⟨g, cap, cur, hv, hg, by rw [hb.block g (lt_of_heap hh)]; exact hh, r⟩

/-- The row's block. -/
theorem QAt.shape (h : QAt B gc A c q u sd w) : ∃ g, (0 < q.length → A = some ⟨g, 0, none⟩) ∧ q.length ≤ c ∧ c ≤ maxLen ∧ ∀ j, j < q.length → EvAt w g (j * 10) (sq q j) (pr q j) := by
  rcases row_shape h.own with ⟨rfl, hn, rfl⟩ | ⟨g, cur, rfl, _, _, hnc, hcm, _, _⟩
  · exact ⟨0, fun h => by omega, by omega, Nat.zero_le _, fun j hj => by omega⟩
  · exact ⟨g, fun _ => rfl, hnc, hcm, fun j hj => ev_at h.own rfl j hj⟩

theorem QAt.row (h : QAt B gc A c q u sd w) (k : Nat) (hk : Value.ownBlock (.slice A q.length c) = some k) : B ≤ k ∧ k < w.heap.size ∧ k ≠ gc := by
  rcases row_shape h.own with ⟨rfl, _, _⟩ | ⟨g, cur, rfl, hgB, hg, _⟩
  · simp [Value.ownBlock] at hk
  · simp [Value.ownBlock] at hk
    subst hk
    refine ⟨hgB, lt_of_heap hg, fun e => ?_⟩
    subst e
    have := h.blk
    rw [hg] at this
    simp at this
end

/-- 'q.events[:u]' and 'q.events[u:]'. -/
theorem cut_head (A : Option Addr) (n c u : Nat) (hA : A = none ∧ n = 0 ∧ c = 0 ∨ ∃ g, A = some ⟨g, 0, none⟩) (hu : u ≤ n) (hnc : n ≤ c) (hcm : c ≤ maxLen) (w : World) :
    (Instr.slice 31 (.slice A n c) none (some (.int .i64 (u : Int))) none).run Try.prog w = .ok (.slice A u c) w := by
  unfold maxLen at hcm
  rcases hA with ⟨rfl, rfl, rfl⟩ | ⟨g, rfl⟩
  · obtain rfl : u = 0 := by omega
    go_simp
  · have h1 : (u : Int) ≤ (c : Int) := by omega
    go_simp

theorem cut_tail (A : Option Addr) (n c u : Nat) (hA : A = none ∧ n = 0 ∧ c = 0 ∨ ∃ g, A = some ⟨g, 0, none⟩) (hu : u ≤ n) (hnc : n ≤ c) (hcm : c ≤ maxLen) :
    ∃ A', (∀ g, A = some ⟨g, 0, none⟩ → u < n → A' = some ⟨g, u * 10, none⟩) ∧ ∀ w, (Instr.slice 31 (.slice A n c) (some (.int .i64 (u : Int))) none none).run Try.prog w = .ok (.slice A' (n - u) (c - u)) w := by
  unfold maxLen at hcm
  rcases hA with ⟨rfl, rfl, rfl⟩ | ⟨g, rfl⟩
  · obtain rfl : u = 0 := by omega
    exact ⟨none, fun g h => (by cases h), fun w => by go_simp⟩
  · have h1 : (u : Int) ≤ (n : Int) := by omega
    by_cases hcu : c = u
    · obtain rfl : n = u := by omega
      exact ⟨some ⟨g, 0, none⟩, fun g' h h2 => by omega, fun w => by go_simp⟩
    · exact ⟨some ⟨g, u * 10, none⟩, fun g' h _ => (by cases h; rfl), fun w => by go_simp⟩

end Go.Proofs.Qxb6612944a
