import Derived.Test.Qxb6612944aModelGo
import Derived.Test.Qxb6612944aEnq
namespace Go.Proofs.Qxb6612944a
open Go.RowKit

/-- A queue of given sequences, no priorities. -/
def plainQ (zs : List Int) : Queue := zs.map fun z => (z, 0)

theorem plainQ_length (zs : List Int) : (plainQ zs).length = zs.length := by simp [plainQ]
theorem plainQ_fst (zs : List Int) : (plainQ zs).map (·.1) = zs := by simp [plainQ, Function.comp_def]
theorem plainQ_snd (zs : List Int) : (plainQ zs).map (·.2) = List.replicate zs.length 0 := by
  simp [plainQ, Function.comp_def, List.map_const']
theorem plainQ_sq (zs : List Int) (i : Nat) : sq (plainQ zs) i = zs.getD i 0 := by rw [← map_fst, plainQ_fst]

theorem plainQ_sorted {zs : List Int} {n u : Nat} (hn : zs.length = n) (hu : u ≤ n) (h : ∀ i, u < i → i < n → zs.getD (i - 1) 0 ≤ zs.getD i 0) : TailSorted (plainQ zs) u := by
  refine ⟨by rw [plainQ_length]; omega, fun i j hi hij hj => ?_⟩
  rw [plainQ_length] at hj
  rw [plainQ_sq, plainQ_sq]
  induction j with
  | zero => obtain rfl : i = 0 := by omega
            exact Int.le_refl _
  | succ j ih =>
    by_cases e : i = j + 1
    · subst e; exact Int.le_refl _
    · have h1 := ih (by omega) (by omega)
      have h2 := h (j + 1) (by omega) (by omega)
      rw [Nat.add_sub_cancel] at h2
      omega

/-- A new client with a new queue. -/
theorem QAt_new {w : World} {q : Queue} {n u : Nat} {sd : Int} (hq : q.length = n) (hn : n ≤ 4200) :
    QAt w.heap.size (w.heap.size + 1) (some ⟨w.heap.size, 0, none⟩) n q u sd ((w.alloc (.cells (qCells q).toArray 36)).alloc (.cells (cli (some ⟨w.heap.size, 0, none⟩) n n u sd) 60)) := by
  subst hq
  have hs : (w.alloc (.cells (qCells q).toArray 36)).heap.size = w.heap.size + 1 := by go_simp
  refine ⟨by rw [← hs, heap_alloc_new], ⟨qCells_length q, .inr ⟨w.heap.size, q.length, (qCells q).toArray, rfl, Nat.le_refl _, ?_, ?_⟩⟩, Nat.le_succ _⟩
  · rw [heap_alloc_old _ _ (by go_simp), heap_alloc_new]
  · refine ⟨Nat.le_refl _, by unfold maxLen; omega, by simp [qCells_length], ?_⟩
    rw [List.take_of_length_le (by simp [qCells_length])]

set_option maxHeartbeats 1000000 in
theorem bytes5 (A : Option Addr) (n c : Nat) (a1 a2 a3 a4 : Int) (w : World) (hn : n ≤ 4096) : Calls Try.prog 5 #[.slice A n c, .int .i64 a1, .int .u64 a2, .int .u64 a3, .int .i64 a4] w fun e w' => e = .returned (.bool true) ∧ w = w' := by
  go_enter Try.func5, Try.ntmps5
  go_wp2
  go_ret
  exact ⟨rfl, rfl⟩

theorem drewN_size (w : World) (n : Nat) : (w.drewN n).heap.size = w.heap.size := by simp

/-- The event's box, kept. -/
theorem ev_kept {w w' : World} {g : Nat} {s p : Int} (h : w.heap[g]? = some (.cells (evCells s p).toArray 36 (0, 0))) (hk : w'.heap[g]? = w.heap[g]?) : EvAt w' g 0 s p := by
  rw [h] at hk
  constructor <;> (rw [cell_of_row w' g _ _ 36 (0, 0) hk]; rfl)

set_option maxRecDepth 100000 in
set_option maxHeartbeats 2000000 in
theorem main3 (A : Option Addr) (n c u : Nat) (zs : List Int) (sd s p : Int) (w : World) (h : Ints w .u64 A n zs) (hn : n ≤ 4096) (hu : u ≤ n) :
    Calls Try.prog 3 #[.slice A n c, .int .i64 u, .int .u64 sd, .int .u64 s, .int .i64 p] w fun e w' => e = .returned (.bool true) ∧ Below w.heap.size w w' := by
  have hmk := make_i64 n (by omega)
  have hzl := h.length
  go_enter Try.func3, Try.ntmps3
  go_wp2_with fail
  refine (bytes5 A n c u sd s p _ hn).mono ?_
  rintro e w' ⟨rfl, rfl⟩
  go_wp2_with fail
  refine (sorted6 A n c u zs _ h (by omega) hu).mono ?_
  rintro e w1 ⟨(⟨rfl, hs⟩ | rfl), m, hw1⟩
  · have hT := plainQ_sorted hzl hu hs
    have hb1 : Below w.heap.size w w1 := by rw [hw1]; exact below_drewN (Below.refl _ _) _
    clear hs hw1
    have HT : Hid _ := hT
    clear hT
    go_wp2_with fail
    have hal := (Below.refl w1.heap.size w1).alloc (Nat.le_refl _) (.cells (Row .i64 (List.replicate n 0)) 3)
    have hS2 := (h.later hb1).later hal
    have hP2 : Ints (w1.alloc (.cells (Row .i64 (List.replicate n 0)) 3)) .i64 (some ⟨w1.heap.size, 0, none⟩) n ((plainQ zs).map (·.2)) := by
      have := ints_row (heap_alloc_new w1 (.cells (Row .i64 (List.replicate n 0)) 3))
      rw [List.length_replicate] at this
      rw [plainQ_snd, hzl]
      exact this
    refine (model7 A (some ⟨w1.heap.size, 0, none⟩) c n u n (plainQ zs) sd s p _ (by rw [plainQ_length]; exact hzl) (by rw [plainQ_fst]; exact hS2) hP2 (by omega) hu).mono ?_
    rintro e W3 ⟨⟨SA, PA, cs, cp, rfl, hS3, hP3⟩, hb3⟩
    have hX3 : Below w.heap.size w W3 := (hb1.trans (hal.mono hb1.size)).trans (hb3.mono (by have := hb1.size; simp <;> omega))
    obtain ⟨r, hr⟩ : ∃ r, enq sd (plainQ zs) u s p = r := ⟨_, rfl⟩
    rw [hr] at hS3 hP3 ⊢
    have HR : Hid _ := hr
    have HS : Hid _ := And.intro hS3 hP3
    clear hr hS3 hP3 hS2 hP2 hmk
    go_wp2_with fail
    refine (build9 A n c zs _ (h.later hX3) (by omega)).mono ?_
    rintro e _ ⟨rfl, rfl⟩
    go_wp2_with fail
    refine (newClient8 (some ⟨W3.heap.size, 0, none⟩) n n u sd _).mono ?_
    rintro e _ ⟨rfl, rfl⟩
    have HQ : Hid _ := QAt_new (w := W3) (n := n) (q := plainQ zs) (u := u) (sd := sd) (by rw [plainQ_length]; exact hzl) (by omega)
    go_wp2_with fail
    have hev6 : Below (W3.heap.size + 1 + 1) ((W3.alloc (.cells (qCells (plainQ zs)).toArray 36)).alloc (.cells (cli (some ⟨W3.heap.size, 0, none⟩) n n u sd) 60)) (((W3.alloc (.cells (qCells (plainQ zs)).toArray 36)).alloc (.cells (cli (some ⟨W3.heap.size, 0, none⟩) n n u sd) 60)).alloc (.cells (evCells s p).toArray 36)) := (Below.refl _ _).alloc (by simp) _
    have hX6 : Below W3.heap.size W3 (((W3.alloc (.cells (qCells (plainQ zs)).toArray 36)).alloc (.cells (cli (some ⟨W3.heap.size, 0, none⟩) n n u sd) 60)).alloc (.cells (evCells s p).toArray 36)) := (((Below.refl _ _).alloc (Nat.le_refl _) _).alloc (by simp) _).alloc (by simp <;> omega) _
    have hev : (((W3.alloc (.cells (qCells (plainQ zs)).toArray 36)).alloc (.cells (cli (some ⟨W3.heap.size, 0, none⟩) n n u sd) 60)).alloc (.cells (evCells s p).toArray 36)).heap[W3.heap.size + 1 + 1]? = some (.cells (evCells s p).toArray 36 (0, 0)) := by
      have := heap_alloc_new ((W3.alloc (.cells (qCells (plainQ zs)).toArray 36)).alloc (.cells (cli (some ⟨W3.heap.size, 0, none⟩) n n u sd) 60)) (.cells (evCells s p).toArray 36)
      simpa using this
    have HQ6 := HQ.out.later (by simpa using hev6)
    refine (enqueue10 W3.heap.size (W3.heap.size + 1) n u (some ⟨W3.heap.size, 0, none⟩) (plainQ zs) sd s p _ (by exact HQ6) HT.out (by rw [plainQ_length]; omega)).mono ?_
    rintro e W7 ⟨rfl, ⟨A7, c7, hQ7⟩, hb7, hk7⟩
    rw [HR.out] at hQ7
    have hX37 : Below W3.heap.size W3 W7 := hX6.trans hb7
    have hE7 : EvAt W7 (W3.heap.size + 1 + 1) 0 s p := ev_kept hev (hk7 _ (by simp) (by omega) (by simp [Value.ownBlock]; omega))
    have hS7 := HS.out.1.later hX37
    have hP7 := HS.out.2.later hX37
    have hX7 : Below w.heap.size w W7 := hX3.trans (hX37.mono hX3.size)
    have hrl : r.1.length ≤ 4200 := by rw [← HR.out]; have := enq_length_le sd (plainQ zs) u s p; rw [plainQ_length] at this; omega
    have hTr : TailSorted r.1 r.2 := by rw [← HR.out]; exact enq_sorted sd _ u s p HT.out
    have hag : enq sd r.1 r.2 s p = r := by rw [← HR.out]; exact enq_again sd _ u s p p
    have HA : Hid _ := hag
    have HTr : Hid _ := hTr
    clear hk7 hev hev6 HQ6 hX6 HQ hag hTr hb7
    have hwB := hX3.size
    generalize hBe : W3.heap.size = B at *
    have HB : Hid _ := hBe
    clear hBe
    go_wp2_with fail
    refine (queueOf11 B (B + 1) c7 r.2 A7 r.1 sd W7 hQ7).mono ?_
    rintro e W8 ⟨rfl, n8, hw8⟩
    have hb8 : Below W7.heap.size W7 W8 := by rw [hw8]; exact below_drewN (Below.refl _ _) _
    have hQ8 := hQ7.later hb8
    have hS8 := hS7.later hb8
    have hP8 := hP7.later hb8
    have hX8 : Below w.heap.size w W8 := hX7.trans (hb8.mono hX7.size)
    have hE8 := hE7.later hb8 hE7.lt
    clear hw8 hE7 hS7 hP7 hX7 hQ7
    obtain ⟨g8, hA8, hnc8, hcm8, hev8⟩ := hQ8.shape
    go_wp2_with fail
    refine (same12 g8 c7 cs cp r.2 A7 SA PA r.1 W8 hA8 hev8 hS8 hP8 (by omega)).mono ?_
    rintro e W9 ⟨rfl, n9, hw9⟩
    have hb9 : Below W8.heap.size W8 W9 := by rw [hw9]; exact below_drewN (Below.refl _ _) _
    have hQ9 := hQ8.later hb9
    have hS9 := hS8.later hb9
    have hP9 := hP8.later hb9
    have hX9 : Below w.heap.size w W9 := hX8.trans (hb9.mono hX8.size)
    have hE9 := hE8.later hb9 hE8.lt
    clear hw9 hE8 hS8 hP8 hX8 hQ8 hev8 hA8
    have x0 := hE9.c0
    have x1 := hE9.c1
    have x2 := hE9.c2
    have x3 := hE9.c3
    have x4 := hE9.c4
    have x5 := hE9.c5
    have x6 := hE9.c6
    have x7 := hE9.c7
    have x8 := hE9.c8
    have x9 := hE9.c9
    simp only [Nat.zero_add] at x0 x1 x2 x3 x4 x5 x6 x7 x8 x9
    go_wp2_with fail
    refine (enqueue10 B (B + 1) c7 r.2 A7 r.1 sd s p W9 hQ9 HTr.out hrl).mono ?_
    rintro e W10 ⟨rfl, ⟨A10, c10, hQ10⟩, hb10, _⟩
    rw [HA.out] at hQ10
    have hX310 : Below W3.heap.size W3 W10 := by
      rw [HB.out]
      exact (((hX37.trans (hb8.mono (by have := hX37.size; rw [HB.out] at this; exact this))).trans (hb9.mono (by have := (hX37.trans (hb8.mono (by have := hX37.size; rw [HB.out] at this; exact this))).size; rw [HB.out] at this; exact this))).trans hb10)
    have hS10 := HS.out.1.later hX310
    have hP10 := HS.out.2.later hX310
    have hX10 : Below w.heap.size w W10 := hX9.trans (hb10.mono hwB)
    clear x0 x1 x2 x3 x4 x5 x6 x7 x8 x9 hE9 hS9 hP9 hQ9
    go_wp2_with fail
    refine (queueOf11 B (B + 1) c10 r.2 A10 r.1 sd W10 hQ10).mono ?_
    rintro e W11 ⟨rfl, n11, hw11⟩
    have hb11 : Below W10.heap.size W10 W11 := by rw [hw11]; exact below_drewN (Below.refl _ _) _
    have hQ11 := hQ10.later hb11
    have hS11 := hS10.later hb11
    have hP11 := hP10.later hb11
    have hX11 : Below w.heap.size w W11 := hX10.trans (hb11.mono hX10.size)
    clear hw11 hS10 hP10 hX10 hQ10
    obtain ⟨g11, hA11, hnc11, hcm11, hev11⟩ := hQ11.shape
    go_wp2_with fail
    refine (same12 g11 c10 cs cp r.2 A10 SA PA r.1 W11 hA11 hev11 hS11 hP11 (by omega)).mono ?_
    rintro e W12 ⟨rfl, n12, hw12⟩
    have hX12 : Below w.heap.size w W12 := by rw [hw12]; exact below_drewN hX11 _
    clear hw12 hev11 hA11
    go_wp2_with fail
    go_ret
    exact ⟨rfl, hX12⟩
  · go_wp2
    go_ret
    exact ⟨rfl, below_drewN (Below.refl _ _) _⟩

end Go.Proofs.Qxb6612944a
