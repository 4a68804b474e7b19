import Derived.Test.Qxb6612944aQueue
import Derived.Deep.RegionHeld3
import Derived.Deep.RegionWith
namespace Go.Proofs.Qxb6612944a
open Go.RowKit

/-- The plain part of insert: what the three looks say of the model. -/
theorem found_has {q : Queue} {u i : Nat} {s : Int} (hi : i < q.length - u) (hs : sq q (u + i) = s) : Has q s := ⟨u + i, by omega, hs⟩

theorem not_has {q : Queue} {u i : Nat} {s : Int} (hT : TailSorted q u) (h1 : ∀ j, j < i → sq q (u + j) < s) (h2 : ∀ j, i ≤ j → j < q.length - u → s ≤ sq q (u + j)) (hf : ¬ (i < q.length - u ∧ sq q (u + i) = s)) (hh : ∀ j, j < u → ¬ sq q j = s) : ¬ Has q s := by
  rintro ⟨j, hj, hs⟩
  by_cases hju : j < u
  · exact hh j hju hs
  · by_cases hji : j - u < i
    · have := h1 (j - u) hji
      rw [show u + (j - u) = j by omega] at this
      omega
    · have h3 := h2 i (Nat.le_refl _) (by omega)
      have h4 := hT.2 (u + i) j (by omega) (by omega) hj
      exact hf ⟨by omega, by omega⟩

theorem pos_head {q : Queue} {u j : Nat} {s : Int} (hu : u ≤ q.length) (hj : j < u) (h1 : s < sq q j) (h2 : ∀ i, i < j → ¬ s < sq q i) : IsPos q s j :=
  ⟨by omega, fun i hi => Int.not_lt.1 (h2 i hi), fun _ => h1⟩

theorem pos_tail {q : Queue} {u i : Nat} {s : Int} (hT : TailSorted q u) (hi : i ≤ q.length - u) (h1 : ∀ j, j < i → sq q (u + j) < s) (h2 : ∀ j, i ≤ j → j < q.length - u → s ≤ sq q (u + j)) (hh : ¬ Has q s) (h3 : ∀ j, j < u → ¬ s < sq q j) : IsPos q s (u + i) := by
  have hu := hT.1
  refine ⟨by omega, fun j hj => ?_, fun hl => ?_⟩
  · by_cases hju : j < u
    · exact Int.not_lt.1 (h3 j hju)
    · have := h1 (j - u) (by omega)
      rw [show u + (j - u) = j by omega] at this
      omega
  · have h4 := h2 i (Nat.le_refl _) (by omega)
    have h5 : sq q (u + i) ≠ s := fun e => hh ⟨u + i, hl, e⟩
    omega

theorem FindIs.parts {S : Nat → Int} {n : Nat} {t : Int} {e : Ending} (h : FindIs S n t e) : ∃ (i : Nat) (b : Bool), i ≤ n ∧ (∀ j, j < i → S j < t) ∧ (∀ j, i ≤ j → j < n → t ≤ S j) ∧ (b = true ↔ i < n ∧ S i = t) ∧ e = .returned (.tuple #[.int .i64 (i : Int), .bool b]) := by
  obtain ⟨i, h1, h2, h3, h4⟩ := h
  exact ⟨i, _, h1, h2, h3, by simp, h4⟩

theorem ev_tail {w w' : World} {g : Nat} {q : Queue} {u : Nat} (hev : ∀ j, j < q.length → EvAt w g (j * 10) (sq q j) (pr q j)) (hb : Below w.heap.size w w') (j : Nat) (hj : j < q.length - u) : EvAt w' g (u * 10 + j * 10) (sq q (u + j)) (pr q (u + j)) := by
  have h := hev (u + j) (by omega)
  rw [show u * 10 + j * 10 = (u + j) * 10 by omega]
  exact h.later hb h.lt

theorem ev_head {w w' : World} {g : Nat} {q : Queue} {u : Nat} (hu : u ≤ q.length) (hev : ∀ j, j < q.length → EvAt w g (j * 10) (sq q j) (pr q j)) (hb : Below w.heap.size w w') (j : Nat) (hj : j < u) : EvAt w' g (0 + j * 10) (sq q j) (pr q j) := by
  have h := hev j (by omega)
  rw [Nat.zero_add]
  exact h.later hb h.lt

/-- Insert's contract at a queue, in the world in which the event has been laid. -/
theorem insert_q {B gc c u k : Nat} {A : Option Addr} {q : Queue} {sd s p : Int} {w : World} (h : QAt B gc A c q u sd w) (hn : q.length ≤ 4200) (hk : k ≤ q.length) :
    Calls Try.prog 22 #[.slice A q.length c, .int .i64 k, .slice (some ⟨w.heap.size, 0, none⟩) 1 1] (w.alloc (.cells (evCells s p).toArray 36)).drew fun e w' => ∃ A' c', e = .returned (.slice A' (q.length + 1) c') ∧
      w'.ownsRow B 36 10 (.slice A' (q.length + 1) c') (q.length + 1) (qCells (ins q k (s, p))) ∧ w'.heap[gc]? = some (.cells (cli A q.length c u sd) 60 (0, 0)) ∧ Below B w w' ∧ ∀ k, k < w.heap.size → some k ≠ Value.ownBlock (.slice A q.length c) → w'.heap[k]? = w.heap[k]? := by
  have hgc := lt_of_heap h.blk
  have hB := h.hB
  have hal : Below w.heap.size w (w.alloc (.cells (evCells s p).toArray 36)).drew := ((Below.refl _ _).alloc (Nat.le_refl _) _).drew
  have h' := h.later hal
  refine (insert22 B q.length c k w.heap.size A (qCells q) (evCells s p) _ h'.own (heap_alloc_new w _) rfl (fun e => ?_) (ev_oneCell s p) (q_oneCell q) (by omega) (by simp; omega) hk).mono ?_
  · have := h.row _ e; omega
  · rintro e w' ⟨A', c', rfl, ho, hg⟩
    refine ⟨A', c', rfl, ?_, ?_, ?_, fun k hk hne => by rw [hg.block k (by simp; omega) hne]; exact hal.block k hk⟩
    · rw [qCells_ins q k _ hk]; exact ho
    · rw [hg.block gc (by simp; omega) (fun e => (h.row gc e.symm).2.2 rfl)]; exact h'.blk
    · exact (hal.mono (by omega)).grown hg (by simp; omega) (fun k hk => (h.row k hk).1)

theorem own_setCell {w : World} {B gc : Nat} {v : Value} {n : Nat} {xs : List Value} {C : Array Value} (h : w.ownsRow B 36 10 v n xs) (hb : w.heap[gc]? = some (.cells C 60 (0, 0))) (j : Nat) (x : Value) : (w.setCell ⟨gc, j, none⟩ x).ownsRow B 36 10 v n xs := by
  refine ⟨h.1, ?_⟩
  rcases h.2 with h2 | ⟨g, cap, cur, hv, hg, hh, r⟩
  · exact .inl h2
  · refine .inr ⟨g, cap, cur, hv, hg, ?_, r⟩
    rw [Below.heap_setCell w ⟨gc, j, none⟩ x g (fun e => by
      have e' : g = gc := e
      subst e'
      rw [hh] at hb
      simp at hb)]
    exact hh

/-- The queue's slice stored back. -/
theorem stored9 {B gc c u n c' : Nat} {A A' : Option Addr} {q' : Queue} {sd : Int} {w : World} (hb : w.heap[gc]? = some (.cells (cli A n c u sd) 60 (0, 0))) (ho : w.ownsRow B 36 10 (.slice A' q'.length c') q'.length (qCells q')) (hB : B ≤ gc) :
    QAt B gc A' c' q' u sd (w.setCell ⟨gc, 9, none⟩ (.slice A' q'.length c')) :=
  ⟨by rw [heap_setCell_same w gc 9 _ 60 _ hb]; rfl, own_setCell ho hb 9 _, hB⟩

/-- The count stored back. -/
theorem QAt.stored10 {B gc c u u' : Nat} {A : Option Addr} {q : Queue} {sd : Int} {w : World} (h : QAt B gc A c q u sd w) : QAt B gc A c q u' sd (w.setCell ⟨gc, 10, none⟩ (.int .i64 u')) :=
  ⟨by rw [heap_setCell_same w gc 10 _ 60 _ h.blk]; rfl, own_setCell h.own h.blk 10 _, h.hB⟩

/-- Both, as insert leaves them. -/
theorem stored_both {B gc c u n n' c' : Nat} {A A' : Option Addr} {q' : Queue} {sd : Int} {w : World} (hb : w.heap[gc]? = some (.cells (cli A n c u sd) 60 (0, 0))) (hn : q'.length = n') (ho : w.ownsRow B 36 10 (.slice A' n' c') n' (qCells q')) (hB : B ≤ gc) :
    QAt B gc A' c' q' (u + 1) sd ((w.setCell ⟨gc, 9, none⟩ (.slice A' n' c')).setCell ⟨gc, 10, none⟩ (.int .i64 ((u : Int) + 1))) ∧ QAt B gc A' c' q' u sd (w.setCell ⟨gc, 9, none⟩ (.slice A' n' c')) := by
  subst hn
  exact ⟨(stored9 hb ho hB).stored10 (u' := u + 1), stored9 hb ho hB⟩

theorem QAt.drew {B gc c u : Nat} {A : Option Addr} {q : Queue} {sd : Int} {w : World} (h : QAt B gc A c q u sd w) : QAt B gc A c q u sd w.drew := ⟨h.blk, h.own, h.hB⟩

/-- All blocks of w but the client's and its row's are as they were. -/
def KeptQ (gc : Nat) (row : Option Nat) (w w' : World) : Prop := ∀ k, k < w.heap.size → k ≠ gc → some k ≠ row → w'.heap[k]? = w.heap[k]?

theorem keptQ_below {gc : Nat} {row : Option Nat} {w w' : World} (h : Below w.heap.size w w') : KeptQ gc row w w' := fun k hk _ _ => h.block k hk

theorem KeptQ.after {gc : Nat} {row : Option Nat} {w w1 w' : World} (h : KeptQ gc row w1 w') (hb : Below w.heap.size w w1) : KeptQ gc row w w' :=
  fun k hk h1 h2 => (h k (Nat.lt_of_lt_of_le hk hb.size) h1 h2).trans (hb.block k hk)

theorem KeptQ.set {gc : Nat} {row : Option Nat} {w w' : World} (h : KeptQ gc row w w') (j : Nat) (x : Value) : KeptQ gc row w (w'.setCell ⟨gc, j, none⟩ x) :=
  fun k hk h1 h2 => (Below.heap_setCell w' ⟨gc, j, none⟩ x k (fun e => h1 e)).trans (h k hk h1 h2)

set_option maxRecDepth 100000 in
set_option maxHeartbeats 2000000 in
theorem insert15 (B gc c u : Nat) (A : Option Addr) (q : Queue) (sd s p : Int) (w : World) (h : QAt B gc A c q u sd w) (hT : TailSorted q u) (hn : q.length ≤ 4200) (hs : s ≠ sd) :
    Calls Try.prog 15 #[.pointer (some ⟨gc, 9, none⟩), evV s p] w fun e w' => e = .returned (.tuple #[]) ∧ (∃ A' c', QAt B gc A' c' (enq sd q u s p).1 (enq sd q u s p).2 sd w') ∧ Below B w w' ∧ KeptQ gc (Value.ownBlock (.slice A q.length c)) w w' := by
  have hgc := lt_of_heap h.blk
  have hB := h.hB
  obtain ⟨g, hA, hnc, hcm, hev⟩ := h.shape
  have hu := hT.1
  have hA0 : A = none ∧ q.length = 0 ∧ c = 0 ∨ ∃ g, A = some ⟨g, 0, none⟩ := by
    rcases row_shape h.own with h | ⟨g, _, h, _⟩
    · exact .inl h
    · exact .inr ⟨g, h⟩
  have hc9 : w.cell? ⟨gc, 9, none⟩ = some (.slice A q.length c) := by rw [cell_of_row w gc 9 _ 60 (0, 0) h.blk]; rfl
  have hc10 : w.cell? ⟨gc, 10, none⟩ = some (.int .i64 u) := by rw [cell_of_row w gc 10 _ 60 (0, 0) h.blk]; rfl
  have hch := cut_head A q.length c u hA0 hu hnc hcm
  obtain ⟨A2, hA2, hct⟩ := cut_tail A q.length c u hA0 hu hnc hcm
  have hal := (Below.refl w.heap.size w).alloc (Nat.le_refl _) (.cells (evCells s p).toArray 36)
  have H0 := h
  clear h
  unfold maxLen at hcm
  go_enter Try.func15, Try.ntmps15
  go_wp2
  go_quiet (fail)
  go_wp2_with fail
  have hX0 : Below w.heap.size w ((w.alloc (.cells (evCells s p).toArray 36)).drewN nq) := below_drewN hal nq
  refine (search16 A2 g (u * 10) (q.length - u) (c - u) (fun j => sq q (u + j)) (fun j => pr q (u + j)) s _ (by omega) (fun h => hA2 g (hA (by omega)) (by omega)) (fun j hj => ev_tail hev (by exact hX0) j hj) (fun i j hij hj => hT.2 _ _ (by omega) (by omega) (by omega))).mono ?_
  rintro e w1 ⟨hF, hb1⟩
  obtain ⟨i, b, hi, hF1, hF2, hF3, rfl⟩ := hF.parts
  have hX1 : Below w.heap.size w w1 := hX0.trans (hb1.mono hX0.size)
  have e0 : w1.cell? ⟨w.heap.size, 1, none⟩ = some (.int .u64 s) := by
    rw [hb1.cell (by simp)]
    show (w.alloc (.cells (evCells s p).toArray 36)).cell? _ = _
    rw [World.cell?_alloc_at _ _ _ _ rfl]
    rfl
  have HF : Hid _ := And.intro hF1 (And.intro hF2 hF3)
  clear hF1 hF2 hF3 hF
  cases b with
  | true =>
    have hhas : Has q s := by obtain ⟨h1, h2⟩ := HF.out.2.2.1 rfl; exact found_has h1 h2
    have henq : enq sd q u s p = (q, u) := enq_no (.inr hhas)
    have HE : Hid _ := henq
    clear henq hev hA
    go_wp2
    refine bodyPost_ret (v := .tuple #[]) (by simp [results, Try.results15, go_sem]) rfl ⟨rfl, ?_, hX1.mono (by omega), keptQ_below hX1⟩
    rw [HE.out]
    exact ⟨A, c, H0.later hX1⟩
  | false =>
    go_wp2_with fail
    refine (has19 A g 0 u c (sq q) (pr q) s _ (by omega) (fun h => hA (by omega)) (fun j hj => ev_head hu hev (by exact hX1) j hj)).mono ?_
    rintro e w2 ⟨hH, hb2⟩
    have hX2 : Below w.heap.size w w2 := hX1.trans (hb2.mono hX1.size)
    rcases hH with ⟨rfl, j, hj, hjs⟩ | ⟨rfl, hno⟩
    · have henq : enq sd q u s p = (q, u) := enq_no (.inr ⟨j, by omega, hjs⟩)
      have HE : Hid _ := henq
      clear henq hev hA hjs
      go_wp2
      refine bodyPost_ret (v := .tuple #[]) (by simp [results, Try.results15, go_sem]) rfl ⟨rfl, ?_, hX2.mono (by omega), keptQ_below hX2⟩
      rw [HE.out]
      exact ⟨A, c, H0.later hX2⟩
    · have hnh : ¬ Has q s := not_has hT HF.out.1 HF.out.2.1 (fun h => by have := HF.out.2.2.2 h; cases this) hno
      have e1 : w2.cell? ⟨w.heap.size, 1, none⟩ = some (.int .u64 s) := by
        rw [hb2.cell (World.block_lt_of_cell? _ _ e0)]
        exact e0
      have HNH : Hid _ := hnh
      clear hnh hno
      go_wp2_with fail
      refine (index21 A g 0 u c w.heap.size (sq q) (pr q) s _ (by omega) (fun h => hA (by omega)) (fun j hj => ev_head hu hev (by exact hX2) j hj) e1).mono ?_
      rintro e w3 ⟨hI, hb3⟩
      have hX3 : Below w.heap.size w w3 := hX2.trans (hb3.mono hX2.size)
      have hsz2 : w.heap.size < w2.heap.size := World.block_lt_of_cell? _ _ e1
      have hsz3 : w.heap.size < w3.heap.size := Nat.lt_of_lt_of_le hsz2 hb3.size
      have H3 := H0.later hX3
      have hgc3 : gc < w3.heap.size := by omega
      have hbox : EvAt w3 w.heap.size 0 s p := by
        have hb0 : EvAt (w.alloc (.cells (evCells s p).toArray 36)) w.heap.size 0 s p := by
          constructor <;> (rw [World.cell?_alloc_at _ _ _ _ rfl]; rfl)
        have hb0' : EvAt ((w.alloc (.cells (evCells s p).toArray 36)).drewN nq) w.heap.size 0 s p := hb0.later (B := w.heap.size + 1) (below_drewN (Below.refl _ _) _) (Nat.lt_succ_self _)
        exact ((hb0'.later hb1 (by simp)).later hb2 (World.block_lt_of_cell? _ _ e0)).later hb3 (World.block_lt_of_cell? _ _ e1)
      have x0 := hbox.c0
      have x1 := hbox.c1
      have x2 := hbox.c2
      have x3 := hbox.c3
      have x4 := hbox.c4
      have x5 := hbox.c5
      have x6 := hbox.c6
      have x7 := hbox.c7
      have x8 := hbox.c8
      have x9 := hbox.c9
      simp only [Nat.zero_add] at x0 x1 x2 x3 x4 x5 x6 x7 x8 x9
      have y9 : w3.cell? ⟨gc, 9, none⟩ = some (.slice A q.length c) := by rw [cell_of_row w3 gc 9 _ 60 (0, 0) H3.blk]; rfl
      have y10 : w3.cell? ⟨gc, 10, none⟩ = some (.int .i64 u) := by rw [cell_of_row w3 gc 10 _ 60 (0, 0) H3.blk]; rfl
      have yf : ∀ j, w3.frozen? ⟨gc, j, none⟩ = false := fun j => frozen_of_row w3 gc j _ 60 H3.blk
      clear hbox e0 e1 hev hb1 hb2 hb3 hc9 hc10 hch hct hX0 hX1 hX2
      rcases hI with ⟨j, hj, hjs, hjn, rfl⟩ | ⟨hno, rfl⟩
      · have hj0 : (0 : Int) ≤ (j : Int) := by omega
        have henq := enq_yes (u := u) (p := p) hs HNH.out (pos_head hu hj hjs hjn)
        rw [if_pos hj] at henq
        have HE : Hid _ := henq
        clear henq hjs hjn
        go_wp2_with fail
        have HINS : Hid _ := insert_q (s := s) (p := p) H3 hn (show j ≤ q.length by omega)
        go_region_with (go_at_call 22; refine Calls.mono HINS.out ?_; rintro e w4 ⟨A', c', rfl, ho4, hb4, hB4, hk4⟩; have z9 : w4.cell? ⟨gc, 9, none⟩ = some (.slice A q.length c) := (by rw [cell_of_row w4 gc 9 _ 60 (0, 0) hb4]; rfl); have z10 : w4.cell? ⟨gc, 10, none⟩ = some (.int .i64 u) := (by rw [cell_of_row w4 gc 10 _ 60 (0, 0) hb4]; rfl); have zf : ∀ j, w4.frozen? ⟨gc, j, none⟩ = false := fun j => frozen_of_row w4 gc j _ 60 hb4)
        all_goals (
          have hfin := stored_both hb4 (ins_length q j (s, p) (by omega)) ho4 hB
          have hbf : Below B w ((w4.setCell ⟨gc, 9, none⟩ (.slice A' (q.length + 1) c')).setCell ⟨gc, 10, none⟩ (.int .i64 ((u : Int) + 1))) := ((((hX3.mono (by omega)).trans hB4).setCell (p := ⟨gc, 9, none⟩) hB _).setCell (p := ⟨gc, 10, none⟩) hB _)
          have hkf : KeptQ gc (Value.ownBlock (.slice A q.length c)) w ((w4.setCell ⟨gc, 9, none⟩ (.slice A' (q.length + 1) c')).setCell ⟨gc, 10, none⟩ (.int .i64 ((u : Int) + 1))) := (KeptQ.after (w1 := w3) (fun k h1 _ h3 => hk4 k h1 h3) hX3).set 9 _ |>.set 10 _
          clear hk4
          have HFIN : Hid _ := hfin.1
          clear hfin ho4 hb4 HINS x0 x1 x2 x3 x4 x5 x6 x7 x8 x9
          go_wp2
          refine bodyPost_ret (v := .tuple #[]) (by simp [results, Try.results15, go_sem]) rfl ⟨rfl, ?_, hbf, hkf⟩
          rw [HE.out]
          exact ⟨A', c', HFIN.out⟩)
      · have henq := enq_yes (u := u) (p := p) hs HNH.out (pos_tail hT hi HF.out.1 HF.out.2.1 HNH.out hno)
        rw [if_neg (by omega)] at henq
        obtain ⟨k, hk⟩ : ∃ k, k = u + i := ⟨_, rfl⟩
        have hui : (u : Int) + (i : Int) = (k : Int) := by omega
        have hkl : k ≤ q.length := by omega
        rw [← hk] at henq
        have HE : Hid _ := henq
        have HINS : Hid _ := insert_q (s := s) (p := p) H3 hn hkl
        clear henq hno hk
        go_wp2_with fail
        have hwk : IntKind.i64.wrap (k : Int) = (k : Int) := by rw [IntKind.wrap_i64]; omega
        clear hA hA0 hA2 hnc hcm hu hal HF HNH hsz2 hi
        go_region_with (go_at_call 22; refine Calls.mono HINS.out ?_; rintro e w4 ⟨A', c', rfl, ho4, hb4, hB4, hk4⟩; have z9 : w4.cell? ⟨gc, 9, none⟩ = some (.slice A q.length c) := (by rw [cell_of_row w4 gc 9 _ 60 (0, 0) hb4]; rfl); have z10 : w4.cell? ⟨gc, 10, none⟩ = some (.int .i64 u) := (by rw [cell_of_row w4 gc 10 _ 60 (0, 0) hb4]; rfl); have zf : ∀ j, w4.frozen? ⟨gc, j, none⟩ = false := fun j => frozen_of_row w4 gc j _ 60 hb4)
        all_goals (
          have hfin := stored_both hb4 (ins_length q k (s, p) hkl) ho4 hB
          have hbf : Below B w (w4.setCell ⟨gc, 9, none⟩ (.slice A' (q.length + 1) c')) := (((hX3.mono (by omega)).trans hB4).setCell (p := ⟨gc, 9, none⟩) hB _)
          have hkf : KeptQ gc (Value.ownBlock (.slice A q.length c)) w (w4.setCell ⟨gc, 9, none⟩ (.slice A' (q.length + 1) c')) := (KeptQ.after (w1 := w3) (fun k h1 _ h3 => hk4 k h1 h3) hX3).set 9 _
          clear hk4
          have HFIN : Hid _ := hfin.2
          clear hfin ho4 hb4 HINS x0 x1 x2 x3 x4 x5 x6 x7 x8 x9
          go_wp2
          go_end0
          refine ⟨rfl, ?_, hbf, hkf⟩
          rw [HE.out]
          exact ⟨A', c', HFIN.out⟩)

end Go.Proofs.Qxb6612944a
