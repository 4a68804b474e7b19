/- The plain model: a queue as a list of (sequence, priority). No Go in sight. -/
import Derived.KernelRfl
namespace Go.Proofs.Qxb6612944a

abbrev Queue := List (Int × Int)

def ins (q : Queue) (k : Nat) (x : Int × Int) : Queue := q.take k ++ x :: q.drop k
/-- The sequence at j. -/
def sq (q : Queue) (j : Nat) : Int := (q.getD j (0, 0)).1
def pr (q : Queue) (j : Nat) : Int := (q.getD j (0, 0)).2

theorem ins_length (q : Queue) (k : Nat) (x : Int × Int) (hk : k ≤ q.length) : (ins q k x).length = q.length + 1 := by
  simp [ins]; omega

theorem ins_get (q : Queue) (k : Nat) (x : Int × Int) (hk : k ≤ q.length) (j : Nat) :
    (ins q k x).getD j (0, 0) = if j < k then q.getD j (0, 0) else if j = k then x else q.getD (j - 1) (0, 0) := by
  have hl : (q.take k).length = k := by simp; omega
  simp only [ins, List.getD]
  by_cases h1 : j < k
  · rw [if_pos h1, List.getElem?_append_left (by omega), List.getElem?_take, if_pos h1]
  · rw [if_neg h1, List.getElem?_append_right (by omega), hl]
    by_cases h2 : j = k
    · subst h2; simp
    · rw [if_neg h2]
      obtain ⟨m, hm⟩ : ∃ m, j - k = m + 1 := ⟨j - k - 1, by omega⟩
      rw [hm, List.getElem?_cons_succ, List.getElem?_drop, show k + m = j - 1 by omega]

theorem ins_sq (q : Queue) (k : Nat) (x : Int × Int) (hk : k ≤ q.length) (j : Nat) :
    sq (ins q k x) j = if j < k then sq q j else if j = k then x.1 else sq q (j - 1) := by
  unfold sq
  rw [ins_get q k x hk j]
  split
  · rfl
  · split <;> rfl

/-- The place of the first later event. -/
def IsPos (q : Queue) (s : Int) (k : Nat) : Prop := k ≤ q.length ∧ (∀ j, j < k → sq q j ≤ s) ∧ (k < q.length → s < sq q k)

theorem isPos_unique {q : Queue} {s : Int} {k k' : Nat} (h : IsPos q s k) (h' : IsPos q s k') : k = k' := by
  obtain ⟨a1, a2, a3⟩ := h
  obtain ⟨b1, b2, b3⟩ := h'
  rcases Nat.lt_trichotomy k k' with h | h | h
  · have := a3 (by omega); have := b2 k h; omega
  · exact h
  · have := b3 (by omega); have := a2 k' h; omega

def posFrom (s : Int) : Queue → Nat
  | [] => 0
  | x :: r => if s < x.1 then 0 else posFrom s r + 1

theorem posFrom_isPos (s : Int) : ∀ q : Queue, IsPos q s (posFrom s q)
  | [] => ⟨Nat.le_refl _, fun j hj => by simp [posFrom] at hj, fun h => by simp [posFrom] at h⟩
  | x :: r => by
    unfold posFrom
    by_cases h : s < x.1
    · rw [if_pos h]
      exact ⟨Nat.zero_le _, fun j hj => by omega, fun _ => h⟩
    · rw [if_neg h]
      obtain ⟨a1, a2, a3⟩ := posFrom_isPos s r
      refine ⟨by simp; omega, fun j hj => ?_, fun hl => ?_⟩
      · cases j with
        | zero => exact Int.not_lt.1 h
        | succ j => exact a2 j (by omega)
      · exact a3 (by simpa using hl)

def Has (q : Queue) (s : Int) : Prop := ∃ j, j < q.length ∧ sq q j = s

theorem has_iff (q : Queue) (s : Int) : (q.any fun x => x.1 == s) = true ↔ Has q s := by
  rw [List.any_eq_true]
  constructor
  · rintro ⟨x, hx, hs⟩
    obtain ⟨j, hj, rfl⟩ := List.mem_iff_getElem.1 hx
    exact ⟨j, hj, by simpa [sq, List.getD, hj] using hs⟩
  · rintro ⟨j, hj, hs⟩
    exact ⟨q[j], List.getElem_mem hj, by simpa [sq, List.getD, hj] using hs⟩

/-- What enqueue does: nothing if the event is being sent or is queued; else it goes ahead of the first later one. -/
def enq (sd : Int) (q : Queue) (u : Nat) (s p : Int) : Queue × Nat :=
  if s = sd ∨ (q.any fun x => x.1 == s) = true then (q, u) else (ins q (posFrom s q) (s, p), if posFrom s q < u then u + 1 else u)

theorem enq_no {sd : Int} {q : Queue} {u : Nat} {s p : Int} (h : s = sd ∨ Has q s) : enq sd q u s p = (q, u) := by
  unfold enq
  rw [if_pos (h.elim .inl (fun h => .inr ((has_iff q s).2 h)))]
theorem enq_yes {sd : Int} {q : Queue} {u : Nat} {s p : Int} (h1 : s ≠ sd) (h2 : ¬ Has q s) {k : Nat} (hk : IsPos q s k) : enq sd q u s p = (ins q k (s, p), if k < u then u + 1 else u) := by
  obtain rfl := isPos_unique (posFrom_isPos s q) hk
  unfold enq
  rw [if_neg (fun h => h.elim h1 (fun h => h2 ((has_iff q s).1 h)))]

theorem has_ins {q : Queue} {k : Nat} {x : Int × Int} (hk : k ≤ q.length) (s : Int) : Has (ins q k x) s ↔ Has q s ∨ x.1 = s := by
  constructor
  · rintro ⟨j, hj, hs⟩
    rw [ins_length q k x hk] at hj
    rw [ins_sq q k x hk] at hs
    by_cases h1 : j < k
    · rw [if_pos h1] at hs; exact .inl ⟨j, by omega, hs⟩
    · rw [if_neg h1] at hs
      by_cases h2 : j = k
      · rw [if_pos h2] at hs; exact .inr hs
      · rw [if_neg h2] at hs; exact .inl ⟨j - 1, by omega, hs⟩
  · rintro (⟨j, hj, hs⟩ | hs)
    · by_cases h1 : j < k
      · exact ⟨j, by rw [ins_length q k x hk]; omega, by rw [ins_sq q k x hk, if_pos h1]; exact hs⟩
      · exact ⟨j + 1, by rw [ins_length q k x hk]; omega, by rw [ins_sq q k x hk, if_neg (by omega), if_neg (by omega)]; exact hs⟩
    · exact ⟨k, by rw [ins_length q k x hk]; omega, by rw [ins_sq q k x hk, if_neg (by omega), if_pos rfl]; exact hs⟩

theorem has_enq {sd : Int} {q : Queue} {u : Nat} {s p : Int} (t : Int) (h : Has q t) : Has (enq sd q u s p).1 t := by
  by_cases hn : s = sd ∨ Has q s
  · rw [enq_no hn]; exact h
  · rw [enq_yes (fun e => hn (.inl e)) (fun e => hn (.inr e)) (posFrom_isPos s q)]
    exact (has_ins (posFrom_isPos s q).1 t).2 (.inl h)

theorem has_enq_self {sd : Int} {q : Queue} {u : Nat} {s p : Int} (h : s ≠ sd) : Has (enq sd q u s p).1 s := by
  by_cases hn : Has q s
  · rw [enq_no (.inr hn)]; exact hn
  · rw [enq_yes h hn (posFrom_isPos s q)]
    exact (has_ins (posFrom_isPos s q).1 s).2 (.inr rfl)

/-- Enqueueing it again changes nothing. -/
theorem enq_again (sd : Int) (q : Queue) (u : Nat) (s p p' : Int) : enq sd (enq sd q u s p).1 (enq sd q u s p).2 s p' = enq sd q u s p := by
  by_cases h : s = sd
  · rw [enq_no (.inl h), enq_no (.inl h)]
  · rw [enq_no (.inr (has_enq_self h))]

/-- The events from u on are in order. -/
def TailSorted (q : Queue) (u : Nat) : Prop := u ≤ q.length ∧ ∀ i j, u ≤ i → i ≤ j → j < q.length → sq q i ≤ sq q j

theorem enq_length_le (sd : Int) (q : Queue) (u : Nat) (s p : Int) : (enq sd q u s p).1.length ≤ q.length + 1 := by
  by_cases hn : s = sd ∨ Has q s
  · rw [enq_no hn]; exact Nat.le_succ _
  · rw [enq_yes (fun e => hn (.inl e)) (fun e => hn (.inr e)) (posFrom_isPos s q)]
    exact Nat.le_of_eq (ins_length _ _ _ (posFrom_isPos s q).1)

theorem enq_sorted (sd : Int) (q : Queue) (u : Nat) (s p : Int) (h : TailSorted q u) : TailSorted (enq sd q u s p).1 (enq sd q u s p).2 := by
  by_cases hn : s = sd ∨ Has q s
  · rw [enq_no hn]; exact h
  · rw [enq_yes (fun e => hn (.inl e)) (fun e => hn (.inr e)) (posFrom_isPos s q)]
    obtain ⟨a1, a2, a3⟩ := posFrom_isPos s q
    generalize posFrom s q = k at *
    have hl := ins_length q k (s, p) a1
    obtain ⟨hu, hs⟩ := h
    refine ⟨by show (if k < u then u + 1 else u) ≤ _; rw [hl]; split <;> omega, fun i j hi hij hj => ?_⟩
    rw [hl] at hj
    have hi' : (if k < u then u + 1 else u) ≤ i := hi
    rw [ins_sq q k (s, p) a1, ins_sq q k (s, p) a1]
    by_cases hku : k < u
    · rw [if_pos hku] at hi'
      rw [if_neg (by omega), if_neg (by omega), if_neg (by omega), if_neg (by omega)]
      exact hs _ _ (by omega) (by omega) (by omega)
    · rw [if_neg hku] at hi'
      by_cases h1 : j < k
      · rw [if_pos (by omega), if_pos h1]
        exact hs _ _ (by omega) (by omega) (by omega)
      · rw [if_neg h1]
        by_cases h2 : i < k
        · rw [if_pos h2]
          by_cases h3 : j = k
          · rw [if_pos h3]; exact a2 i h2
          · rw [if_neg h3]; exact hs _ _ (by omega) (by omega) (by omega)
        · rw [if_neg h2]
          by_cases h3 : j = k
          · rw [if_pos h3, if_pos (by omega)]; exact Int.le_refl _
          · rw [if_neg h3]
            by_cases h4 : i = k
            · rw [if_pos h4]
              have h5 := a3 (by omega)
              have h6 := hs k (j - 1) (by omega) (by omega) (by omega)
              show s ≤ _
              omega
            · rw [if_neg h4]; exact hs _ _ (by omega) (by omega) (by omega)

/-- Two insertions meet. -/
theorem ins_ins (q : Queue) (i j : Nat) (x y : Int × Int) (hij : i ≤ j) (hj : j ≤ q.length) : ins (ins q i x) (j + 1) y = ins (ins q j y) i x := by
  have h1 := ins_length q i x (by omega)
  have h2 := ins_length q j y hj
  apply List.ext_getElem?
  intro k
  have e : ∀ l : Queue, k < l.length → l[k]? = some (l.getD k (0, 0)) := fun l h => by simp [List.getD, h]
  by_cases hk : k < q.length + 2
  · rw [e _ (by rw [ins_length _ _ _ (by omega)]; omega), e _ (by rw [ins_length _ _ _ (by omega)]; omega)]
    rw [ins_get _ _ _ (by omega), ins_get _ _ _ (by omega), ins_get _ _ _ (by omega), ins_get _ _ _ (by omega), ins_get _ _ _ hj, ins_get _ _ _ hj]
    congr 1
    repeat' split
    all_goals first | rfl | omega | (congr 1; omega)
  · rw [List.getElem?_eq_none (by rw [ins_length _ _ _ (by omega)]; omega), List.getElem?_eq_none (by rw [ins_length _ _ _ (by omega)]; omega)]

theorem ins_map (q : Queue) (k : Nat) (x : Int × Int) : (ins q k x).map (·.1) = (q.map (·.1)).take k ++ x.1 :: (q.map (·.1)).drop k := by simp [ins]

/-- a < b, neither queued nor being sent: the two orders meet. -/
theorem enq_swap_lt (sd : Int) (q : Queue) (u : Nat) (a b pa pb : Int) (hab : a < b) (ha : ¬ (a = sd ∨ Has q a)) (hb : ¬ (b = sd ∨ Has q b)) :
    enq sd (enq sd q u a pa).1 (enq sd q u a pa).2 b pb = enq sd (enq sd q u b pb).1 (enq sd q u b pb).2 a pa := by
  have hA := posFrom_isPos a q
  have hB := posFrom_isPos b q
  generalize posFrom a q = i at *
  generalize posFrom b q = j at *
  have hij : i ≤ j := by
    rcases Nat.lt_or_ge j i with h | h
    · have := hB.2.2 (by have := hA.1; omega); have := hA.2.1 j h; omega
    · exact h
  have la := ins_length q i (a, pa) hA.1
  have lb := ins_length q j (b, pb) hB.1
  rw [enq_yes (fun e => ha (.inl e)) (fun e => ha (.inr e)) hA, enq_yes (fun e => hb (.inl e)) (fun e => hb (.inr e)) hB]
  have hB' : IsPos (ins q i (a, pa)) b (j + 1) := by
    refine ⟨by have := hB.1; omega, fun t ht => ?_, fun ht => ?_⟩
    · rw [ins_sq _ _ _ hA.1]
      split
      · exact hB.2.1 _ (by omega)
      · split
        · show a ≤ b; omega
        · exact hB.2.1 _ (by omega)
    · rw [ins_sq _ _ _ hA.1, if_neg (by omega), if_neg (by omega)]
      exact hB.2.2 (by omega)
  have hA' : IsPos (ins q j (b, pb)) a i := by
    refine ⟨by have := hB.1; omega, fun t ht => ?_, fun ht => ?_⟩
    · rw [ins_sq _ _ _ hB.1, if_pos (by omega)]
      exact hA.2.1 _ ht
    · rw [ins_sq _ _ _ hB.1]
      by_cases h : i < j
      · rw [if_pos h]; exact hA.2.2 (by have := hB.1; omega)
      · rw [if_neg h, if_pos (by omega)]; exact hab
  rw [enq_yes (fun e => hb (.inl e)) (fun e => ((has_ins hA.1 b).1 e).elim (fun e => hb (.inr e)) (fun e => by have e' : a = b := e; omega)) hB',
    enq_yes (fun e => ha (.inl e)) (fun e => ((has_ins hB.1 a).1 e).elim (fun e => ha (.inr e)) (fun e => by have e' : b = a := e; omega)) hA']
  rw [ins_ins q i j _ _ hij hB.1]
  congr 1
  show (if j + 1 < (if i < u then u + 1 else u) then (if i < u then u + 1 else u) + 1 else (if i < u then u + 1 else u)) = (if i < (if j < u then u + 1 else u) then (if j < u then u + 1 else u) + 1 else (if j < u then u + 1 else u))
  repeat' split
  all_goals omega

theorem enq_swap_no (sd : Int) (q : Queue) (u : Nat) (a b pa pb : Int) (ha : a = sd ∨ Has q a) :
    enq sd (enq sd q u a pa).1 (enq sd q u a pa).2 b pb = enq sd (enq sd q u b pb).1 (enq sd q u b pb).2 a pa := by
  rw [enq_no (u := u) (p := pa) ha, enq_no (q := (enq sd q u b pb).1) (ha.elim .inl (fun h => .inr (has_enq a h)))]

/-- The same order of sequence numbers, and the same count, either way. -/
theorem enq_swap (sd : Int) (q : Queue) (u : Nat) (a b pa pb : Int) :
    (enq sd (enq sd q u a pa).1 (enq sd q u a pa).2 b pb).1.map (·.1) = (enq sd (enq sd q u b pb).1 (enq sd q u b pb).2 a pa).1.map (·.1) ∧
    (enq sd (enq sd q u a pa).1 (enq sd q u a pa).2 b pb).2 = (enq sd (enq sd q u b pb).1 (enq sd q u b pb).2 a pa).2 := by
  by_cases ha : a = sd ∨ Has q a
  · rw [enq_swap_no sd q u a b pa pb ha]; exact ⟨rfl, rfl⟩
  by_cases hb : b = sd ∨ Has q b
  · rw [enq_swap_no sd q u b a pb pa hb]; exact ⟨rfl, rfl⟩
  rcases Int.lt_trichotomy a b with h | h | h
  · rw [enq_swap_lt sd q u a b pa pb h ha hb]; exact ⟨rfl, rfl⟩
  · subst h
    rw [enq_again, enq_again, enq_yes (fun e => ha (.inl e)) (fun e => ha (.inr e)) (posFrom_isPos a q), enq_yes (fun e => ha (.inl e)) (fun e => ha (.inr e)) (posFrom_isPos a q)]
    exact ⟨by rw [ins_map, ins_map], rfl⟩
  · rw [enq_swap_lt sd q u b a pb pa h hb ha]; exact ⟨rfl, rfl⟩

end Go.Proofs.Qxb6612944a
