import Derived.Test.Qxb6612944aClos
namespace Go.Proofs.Qxb6612944a
open Go.RowKit

/-- The ten cells of an event in block g from o on. -/
structure EvAt (w : World) (g o : Nat) (s p : Int) : Prop where
  c0 : w.cell? ⟨g, o, none⟩ = some (.string ⟨#[]⟩)
  c1 : w.cell? ⟨g, o + 1, none⟩ = some (.int .u64 s)
  c2 : w.cell? ⟨g, o + 1 + 1, none⟩ = some (.int .i64 p)
  c3 : w.cell? ⟨g, o + 1 + 1 + 1, none⟩ = some (.int .u64 0)
  c4 : w.cell? ⟨g, o + 1 + 1 + 1 + 1, none⟩ = some (.slice none 0 0)
  c5 : w.cell? ⟨g, o + 1 + 1 + 1 + 1 + 1, none⟩ = some (.string ⟨#[]⟩)
  c6 : w.cell? ⟨g, o + 1 + 1 + 1 + 1 + 1 + 1, none⟩ = some (.string ⟨#[]⟩)
  c7 : w.cell? ⟨g, o + 1 + 1 + 1 + 1 + 1 + 1 + 1, none⟩ = some (.string ⟨#[]⟩)
  c8 : w.cell? ⟨g, o + 1 + 1 + 1 + 1 + 1 + 1 + 1 + 1, none⟩ = some (.string ⟨#[]⟩)
  c9 : w.cell? ⟨g, o + 1 + 1 + 1 + 1 + 1 + 1 + 1 + 1 + 1, none⟩ = some (.slice none 0 0)

theorem EvAt.later {w w' : World} {B g o : Nat} {s p : Int} (h : EvAt w g o s p) (hb : Below B w w') (hg : g < B) : EvAt w' g o s p :=
  ⟨by rw [hb.cell hg]; exact h.c0, by rw [hb.cell hg]; exact h.c1, by rw [hb.cell hg]; exact h.c2, by rw [hb.cell hg]; exact h.c3, by rw [hb.cell hg]; exact h.c4,
    by rw [hb.cell hg]; exact h.c5, by rw [hb.cell hg]; exact h.c6, by rw [hb.cell hg]; exact h.c7, by rw [hb.cell hg]; exact h.c8, by rw [hb.cell hg]; exact h.c9⟩

theorem EvAt.lt {w : World} {g o : Nat} {s p : Int} (h : EvAt w g o s p) : g < w.heap.size := World.block_lt_of_cell? _ _ h.c0

/-- What IndexFunc answers. -/
def IdxIs (P : Nat → Prop) (n : Nat) (e : Ending) : Prop :=
  (∃ j, j < n ∧ P j ∧ (∀ i, i < j → ¬ P i) ∧ e = .returned (.int .i64 (j : Int))) ∨ ((∀ i, i < n → ¬ P i) ∧ e = .returned (.int .i64 (-1)))

set_option maxHeartbeats 1000000 in
theorem index25 (A : Option Addr) (g o n c a : Nat) (S Pr : Nat → Int) (t : Int) (w : World) (hn : n ≤ 5000) (hA : 0 < n → A = some ⟨g, o, none⟩) (hev : ∀ j, j < n → EvAt w g (o + j * 10) (S j) (Pr j)) (ha : w.cell? ⟨a, 0, none⟩ = some (.int .u64 t)) :
    Calls Try.prog 20 #[.slice A n c, .func (.func 25) #[] #[.pointer (some ⟨a, 0, none⟩)]] w fun e w' => IdxIs (fun j => S j = t) n e ∧ Below w.heap.size w w' := by
  have hal := World.block_lt_of_cell? _ _ ha
  go_enter Try.func20, Try.ntmps20
  go_wp2
  go_loopw [8] (fun i wr => ∃ k : Nat, k ≤ n ∧ i = .int .i64 k ∧ (∀ i, i < k → ¬ S i = t) ∧ Below w.heap.size w wr) (fun i _ => n - (intOf i).toNat)
  case atStart => exact ⟨0, Nat.zero_le _, rfl, fun i hi => by omega, Below.refl _ _⟩
  case round =>
    obtain ⟨k, hk, rfl, hno, hb⟩ := hrel
    by_cases hlt : k < n
    · obtain rfl := hA (by omega)
      have hE := (hev k hlt).later hb (hev k hlt).lt
      have e0 := hE.c0
      have e1 := hE.c1
      have e2 := hE.c2
      have e3 := hE.c3
      have e4 := hE.c4
      have e5 := hE.c5
      have e6 := hE.c6
      have e7 := hE.c7
      have e8 := hE.c8
      have e9 := hE.c9
      have ha' : wr.cell? ⟨a, 0, none⟩ = some (.int .u64 t) := by rw [hb.cell hal]; exact ha
      have HN : Hid _ := hno
      clear hE hev ha hno
      by_cases hs : S k = t
      · have hs' : (S k == t) = true := by simp [hs]
        have HS : Hid _ := hs
        clear hs
        go_wp2_with (go_at_call 25; refine (clos25 _ _ t a _ ha').mono ?_; rintro e w' ⟨rfl, hb2⟩)
        go_ret
        exact ⟨.inl ⟨k, hlt, HS.out, HN.out, rfl⟩, hb.trans (hb2.mono hb.size)⟩
      · have hs' : (S k == t) = false := by simp [hs]
        have HS : Hid _ := hs
        clear hs
        go_wp2_with (go_at_call 25; refine (clos25 _ _ t a _ ha').mono ?_; rintro e w' ⟨rfl, hb2⟩)
        go_roundw
        case rel => exact ⟨k + 1, by omega, by go_num, fun i hi => (by
          by_cases hik : i < k
          · exact HN.out i hik
          · obtain rfl : i = k := by omega
            exact HS.out), hb.trans (hb2.mono hb.size)⟩
        case measure => simp [intOf]; omega
    · go_wp2
      go_ret
      obtain rfl : k = n := by omega
      exact ⟨.inr ⟨hno, rfl⟩, hb⟩

set_option maxHeartbeats 1000000 in
theorem index21 (A : Option Addr) (g o n c a : Nat) (S Pr : Nat → Int) (t : Int) (w : World) (hn : n ≤ 5000) (hA : 0 < n → A = some ⟨g, o, none⟩) (hev : ∀ j, j < n → EvAt w g (o + j * 10) (S j) (Pr j)) (ha : w.cell? ⟨a, 1, none⟩ = some (.int .u64 t)) :
    Calls Try.prog 20 #[.slice A n c, .func (.func 21) #[] #[.pointer (some ⟨a, 0, none⟩)]] w fun e w' => IdxIs (fun j => t < S j) n e ∧ Below w.heap.size w w' := by
  have hal := World.block_lt_of_cell? _ _ ha
  go_enter Try.func20, Try.ntmps20
  go_wp2
  go_loopw [8] (fun i wr => ∃ k : Nat, k ≤ n ∧ i = .int .i64 k ∧ Hid (∀ i, i < k → S i ≤ t) ∧ Below w.heap.size w wr) (fun i _ => n - (intOf i).toNat)
  case atStart => exact ⟨0, Nat.zero_le _, rfl, fun i hi => by omega, Below.refl _ _⟩
  case round =>
    obtain ⟨k, hk, rfl, hno, hb⟩ := hrel
    by_cases hlt : k < n
    · obtain rfl := hA (by omega)
      have hE := (hev k hlt).later hb (hev k hlt).lt
      have e0 := hE.c0
      have e1 := hE.c1
      have e2 := hE.c2
      have e3 := hE.c3
      have e4 := hE.c4
      have e5 := hE.c5
      have e6 := hE.c6
      have e7 := hE.c7
      have e8 := hE.c8
      have e9 := hE.c9
      have ha' : wr.cell? ⟨a, 1, none⟩ = some (.int .u64 t) := by rw [hb.cell hal]; exact ha
      have HN := hno
      clear hE hev ha hno
      by_cases hs : t < S k
      · have hs' : decide (t < S k) = true := by simp [hs]
        have HS : Hid _ := hs
        clear hs
        go_wp2_with (go_at_call 21; refine (clos21 _ _ t a _ ha').mono ?_; rintro e w' ⟨rfl, hb2⟩)
        go_ret
        exact ⟨.inl ⟨k, hlt, HS.out, fun i hi => Int.not_lt.2 (HN.out i hi), rfl⟩, hb.trans (hb2.mono hb.size)⟩
      · have hs' : decide (t < S k) = false := by simpa using hs
        have HS : Hid _ := hs
        clear hs
        go_wp2_with (go_at_call 21; refine (clos21 _ _ t a _ ha').mono ?_; rintro e w' ⟨rfl, hb2⟩)
        go_roundw
        case rel => exact ⟨k + 1, by omega, by go_num, fun i hi => (by
          by_cases hik : i < k
          · exact HN.out i hik
          · obtain rfl : i = k := by omega
            exact Int.not_lt.1 HS.out), hb.trans (hb2.mono hb.size)⟩
        case measure => simp [intOf]; omega
    · go_wp2
      go_ret
      obtain rfl : k = n := by omega
      exact ⟨.inr ⟨fun i hi => Int.not_lt.2 (hno.out i hi), rfl⟩, hb⟩

set_option maxHeartbeats 1000000 in
theorem contains24 (A : Option Addr) (g o n c a : Nat) (S Pr : Nat → Int) (t : Int) (w : World) (hn : n ≤ 5000) (hA : 0 < n → A = some ⟨g, o, none⟩) (hev : ∀ j, j < n → EvAt w g (o + j * 10) (S j) (Pr j)) (ha : w.cell? ⟨a, 0, none⟩ = some (.int .u64 t)) :
    Calls Try.prog 24 #[.slice A n c, .func (.func 25) #[] #[.pointer (some ⟨a, 0, none⟩)]] w fun e w' => ((e = .returned (.bool true) ∧ ∃ j, j < n ∧ S j = t) ∨ (e = .returned (.bool false) ∧ ∀ i, i < n → ¬ S i = t)) ∧ Below w.heap.size w w' := by
  go_enter Try.func24, Try.ntmps24
  go_wp2_with fail
  refine (index25 A g o n c a S Pr t w hn hA hev ha).mono ?_
  rintro e w' ⟨h, hb⟩
  rcases h with ⟨j, hj, hs, _, rfl⟩ | ⟨hno, rfl⟩
  · have hj0 : (0 : Int) ≤ (j : Int) := by omega
    have HS : Hid _ := hs
    clear hs hev ha hA
    go_wp2
    go_ret
    exact ⟨.inl ⟨rfl, j, hj, HS.out⟩, hb⟩
  · clear hev ha hA
    have HN : Hid _ := hno
    clear hno
    go_wp2
    go_ret
    exact ⟨.inr ⟨rfl, HN.out⟩, hb⟩

set_option maxHeartbeats 1000000 in
/-- hasEvent. -/
theorem has19 (A : Option Addr) (g o n c : Nat) (S Pr : Nat → Int) (t : Int) (w : World) (hn : n ≤ 5000) (hA : 0 < n → A = some ⟨g, o, none⟩) (hev : ∀ j, j < n → EvAt w g (o + j * 10) (S j) (Pr j)) :
    Calls Try.prog 19 #[.slice A n c, .int .u64 t] w fun e w' => ((e = .returned (.bool true) ∧ ∃ j, j < n ∧ S j = t) ∨ (e = .returned (.bool false) ∧ ∀ i, i < n → ¬ S i = t)) ∧ Below w.heap.size w w' := by
  have hal := (Below.refl w.heap.size w).alloc (Nat.le_refl _) (.cells #[.int .u64 t] 23)
  have hev' : ∀ j, j < n → EvAt (w.alloc (.cells #[.int .u64 t] 23)) g (o + j * 10) (S j) (Pr j) := fun j hj => (hev j hj).later hal (hev j hj).lt
  go_enter Try.func19, Try.ntmps19
  go_wp2_with fail
  refine (contains24 A g o n c w.heap.size S Pr t _ hn hA hev' (by rw [World.cell?_alloc_at _ _ _ _ rfl]; rfl)).mono ?_
  rintro e w' ⟨h, hb⟩
  clear hev hev' hA
  rcases h with ⟨rfl, j, hj, hs⟩ | ⟨rfl, hno⟩
  · have HS : Hid _ := hs
    clear hs
    go_wp2
    go_ret
    exact ⟨.inl ⟨rfl, j, hj, HS.out⟩, hal.trans (hb.mono (by simp))⟩
  · have HN : Hid _ := hno
    clear hno
    go_wp2
    go_ret
    exact ⟨.inr ⟨rfl, HN.out⟩, hal.trans (hb.mono (by simp))⟩

/-- What BinarySearchFunc answers over a row that does not fall. -/
def FindIs (S : Nat → Int) (n : Nat) (t : Int) (e : Ending) : Prop :=
  ∃ i : Nat, i ≤ n ∧ (∀ j, j < i → S j < t) ∧ (∀ j, i ≤ j → j < n → t ≤ S j) ∧ e = .returned (.tuple #[.int .i64 (i : Int), .bool (decide (i < n) && (S i == t))])

set_option maxHeartbeats 1000000 in
theorem search16 (A : Option Addr) (g o n c : Nat) (S Pr : Nat → Int) (t : Int) (w : World) (hn : n ≤ 5000) (hA : 0 < n → A = some ⟨g, o, none⟩) (hev : ∀ j, j < n → EvAt w g (o + j * 10) (S j) (Pr j)) (hs : ∀ i j, i ≤ j → j < n → S i ≤ S j) :
    Calls Try.prog 16 #[.slice A n c, .int .u64 t, .func (.func 17) #[] #[]] w fun e w' => FindIs S n t e ∧ Below w.heap.size w w' := by
  have HS : Hid _ := hs
  clear hs
  go_enter Try.func16, Try.ntmps16
  go_wp2
  go_loopw [9, 10] (fun i j wr => ∃ a b : Nat, a ≤ b ∧ b ≤ n ∧ i = .int .i64 a ∧ j = .int .i64 b ∧ Hid ((∀ j, j < a → S j < t) ∧ (∀ j, b ≤ j → j < n → t ≤ S j)) ∧ Below w.heap.size w wr) (fun i j _ => (intOf j).toNat - (intOf i).toNat)
  case atStart => exact ⟨0, n, Nat.zero_le _, Nat.le_refl _, rfl, rfl, ⟨fun j hj => by omega, fun j h1 h2 => by omega⟩, Below.refl _ _⟩
  case round =>
    obtain ⟨a, b, hab, hbn, rfl, rfl, HI, hb⟩ := hrel
    by_cases hlt : a < b
    · obtain rfl := hA (by omega)
      have hlt' : (a : Int) < (b : Int) := by omega
      obtain ⟨m, hm⟩ : ∃ m : Nat, ((a : Int) + (b : Int)) / 2 = (m : Int) := ⟨(a + b) / 2, by omega⟩
      have hm1 : a ≤ m := by omega
      have hm2 : m < b := by omega
      have hm3 : (m : Int) < (n : Int) := by omega
      have hE := (hev m (by omega)).later hb (hev m (by omega)).lt
      have e0 := hE.c0
      have e1 := hE.c1
      have e2 := hE.c2
      have e3 := hE.c3
      have e4 := hE.c4
      have e5 := hE.c5
      have e6 := hE.c6
      have e7 := hE.c7
      have e8 := hE.c8
      have e9 := hE.c9
      clear hE hev
      by_cases hst : S m < t
      · have hcmp : cmpI (S m) t = -1 := by unfold cmpI; rw [if_pos hst]
        go_wp2_with (go_at_call 17; refine (clos17 _ _ t _).mono ?_; rintro e w' ⟨rfl, hb2⟩)
        go_roundw
        case rel => exact ⟨m + 1, b, by omega, hbn, by go_num, rfl, ⟨fun j hj => (by have := HS.out j m (by omega) (by omega); omega), HI.out.2⟩, hb.trans (hb2.mono hb.size)⟩
        case measure => simp [intOf]; omega
      · have hcmp : ∃ x, cmpI (S m) t = x ∧ 0 ≤ x := by unfold cmpI; rw [if_neg hst]; split <;> exact ⟨_, rfl, by omega⟩
        obtain ⟨x, hcmp, hx⟩ := hcmp
        go_wp2_with (go_at_call 17; refine (clos17 _ _ t _).mono ?_; rintro e w' ⟨rfl, hb2⟩)
        go_roundw
        case rel => exact ⟨a, m, hm1, by omega, rfl, rfl, ⟨HI.out.1, fun j h1 h2 => (by have := HS.out m j h1 h2; omega)⟩, hb.trans (hb2.mono hb.size)⟩
        case measure => simp [intOf]; omega
    · obtain rfl : a = b := by omega
      by_cases han : a < n
      · obtain rfl := hA (by omega)
        have han' : (a : Int) < (n : Int) := by omega
        have hE := (hev a han).later hb (hev a han).lt
        have e0 := hE.c0
        have e1 := hE.c1
        have e2 := hE.c2
        have e3 := hE.c3
        have e4 := hE.c4
        have e5 := hE.c5
        have e6 := hE.c6
        have e7 := hE.c7
        have e8 := hE.c8
        have e9 := hE.c9
        clear hE hev
        have hle := HI.out.2 a (Nat.le_refl _) han
        have hcmp : (cmpI (S a) t == 0) = (S a == t) := by
          unfold cmpI
          rw [if_neg (by omega)]
          by_cases h : t < S a
          · rw [if_pos h]; simp; omega
          · rw [if_neg h]; simp; omega
        clear hle
        go_wp2_with (go_at_call 17; refine (clos17 _ _ t _).mono ?_; rintro e w' ⟨rfl, hb2⟩)
        go_ret2
        refine ⟨⟨a, hbn, HI.out.1, HI.out.2, ?_⟩, hb.trans (hb2.mono hb.size)⟩
        simp [han]
      · have han' : ¬ (a : Int) < (n : Int) := by omega
        go_wp2
        go_ret2
        refine ⟨⟨a, hbn, HI.out.1, HI.out.2, ?_⟩, hb⟩
        simp [han]

end Go.Proofs.Qxb6612944a
