import Derived.Test.Qxb6612944aMain3
namespace Go.Proofs.Qxb6612944a
open Go.RowKit

set_option maxHeartbeats 1000000 in
theorem bytes13 (A : Option Addr) (n c : Nat) (a1 a2 a3 a4 a5 a6 : Int) (w : World) (hn : n ≤ 4096) : Calls Try.prog 13 #[.slice A n c, .int .i64 a1, .int .u64 a2, .int .u64 a3, .int .u64 a4, .int .i64 a5, .int .i64 a6] w fun e w' => e = .returned (.bool true) ∧ w = w' := by
  go_enter Try.func13, Try.ntmps13
  go_wp2
  go_ret
  exact ⟨rfl, rfl⟩

/-- A new queue and a new client lie above all that was. -/
theorem below_new (w : World) (o o' : Obj) : Below w.heap.size w ((w.alloc o).alloc o') := ((Below.refl _ _).alloc (Nat.le_refl _) _).alloc (by simp) _

set_option maxRecDepth 100000 in
set_option maxHeartbeats 2000000 in
theorem main4 (A : Option Addr) (n c u : Nat) (zs : List Int) (sd sa sb pa pb : Int) (w : World) (h : Ints w .u64 A n zs) (hn : n ≤ 4096) (hu : u ≤ n) :
    Calls Try.prog 4 #[.slice A n c, .int .i64 u, .int .u64 sd, .int .u64 sa, .int .u64 sb, .int .i64 pa, .int .i64 pb] w fun e w' => e = .returned (.bool true) ∧ Below w.heap.size w w' := by
  have hmk := make_i64 n (by omega)
  have hzl := h.length
  go_enter Try.func4, Try.ntmps4
  go_wp2_with fail
  refine (bytes13 A n c u sd sa sb pa pb _ hn).mono ?_
  rintro e w' ⟨rfl, rfl⟩
  go_wp2_with fail
  refine (sorted6 A n c u zs _ h (by omega) hu).mono ?_
  rintro e w1 ⟨(⟨rfl, hs⟩ | rfl), m, hw1⟩
  · have hT := plainQ_sorted hzl hu hs
    have hb1 : Below w.heap.size w w1 := by rw [hw1]; exact below_drewN (Below.refl _ _) _
    clear hs hw1
    have HT : Hid _ := hT
    clear hT
    go_wp2_with fail
    have hal := (Below.refl w1.heap.size w1).alloc (Nat.le_refl _) (.cells (Row .i64 (List.replicate n 0)) 3)
    have hS2 := (h.later hb1).later hal
    have hP2 : Ints (w1.alloc (.cells (Row .i64 (List.replicate n 0)) 3)) .i64 (some ⟨w1.heap.size, 0, none⟩) n ((plainQ zs).map (·.2)) := by
      have := ints_row (heap_alloc_new w1 (.cells (Row .i64 (List.replicate n 0)) 3))
      rw [List.length_replicate] at this
      rw [plainQ_snd, hzl]
      exact this
    refine (model7 A (some ⟨w1.heap.size, 0, none⟩) c n u n (plainQ zs) sd sa pa _ (by rw [plainQ_length]; exact hzl) (by rw [plainQ_fst]; exact hS2) hP2 (by omega) hu).mono ?_
    rintro e W3 ⟨⟨SA, PA, cs, cp, rfl, hS3, hP3⟩, hb3⟩
    have hX3 : Below w.heap.size w W3 := (hb1.trans (hal.mono hb1.size)).trans (hb3.mono (by have := hb1.size; simp <;> omega))
    have hl0 : (plainQ zs).length = n := by rw [plainQ_length]; exact hzl
    have hla : (enq sd (plainQ zs) u sa pa).1.length ≤ 4097 := by have := enq_length_le sd (plainQ zs) u sa pa; omega
    have hTa := enq_sorted sd _ u sa pa HT.out
    have hlb : (enq sd (plainQ zs) u sb pb).1.length ≤ 4097 := by have := enq_length_le sd (plainQ zs) u sb pb; omega
    have hTb := enq_sorted sd _ u sb pb HT.out
    have hsw := enq_swap sd (plainQ zs) u sa sb pa pb
    have hlab := enq_length_le sd (enq sd (plainQ zs) u sa pa).1 (enq sd (plainQ zs) u sa pa).2 sb pb
    obtain ⟨ra, hra⟩ : ∃ r, enq sd (plainQ zs) u sa pa = r := ⟨_, rfl⟩
    obtain ⟨rb, hrb⟩ : ∃ r, enq sd (plainQ zs) u sb pb = r := ⟨_, rfl⟩
    rw [hra] at hS3 hP3 hla hTa hsw hlab ⊢
    rw [hrb] at hlb hTb hsw
    obtain ⟨rab, hrab⟩ : ∃ r, enq sd ra.1 ra.2 sb pb = r := ⟨_, rfl⟩
    obtain ⟨rba, hrba⟩ : ∃ r, enq sd rb.1 rb.2 sa pa = r := ⟨_, rfl⟩
    rw [hrab] at hsw hlab
    rw [hrba] at hsw
    have hlen : rba.1.length = rab.1.length := by have := congrArg List.length hsw.1; simpa using this.symm
    have hsq : ∀ i, sq rab.1 i = sq rba.1 i := fun i => by rw [← map_fst, ← map_fst, hsw.1]
    have HSW : Hid _ := And.intro hlen (And.intro hsw.2 hsq)
    have HR : Hid _ := And.intro (And.intro hra hrb) (And.intro hrab hrba)
    have HTT : Hid _ := And.intro hTa hTb
    have hua : ra.2 ≤ ra.1.length := hTa.1
    have HS3 : Hid _ := And.intro hS3 hP3
    clear hra hrb hrab hrba hsw hlen hsq hTa hTb hS3 hP3 hS2 hP2 hmk
    go_wp2_with fail
    refine (model7 SA PA cs cp ra.2 ra.1.length ra.1 sd sb pb W3 rfl HS3.out.1 HS3.out.2 (by omega) hua).mono ?_
    rintro e W4 ⟨⟨SA4, PA4, cs4, cp4, rfl, hS4, hP4⟩, hb4⟩
    rw [HR.out.2.1] at hS4 hP4 ⊢
    have hX4 : Below w.heap.size w W4 := hX3.trans (hb4.mono hX3.size)
    have HS4 : Hid _ := And.intro hS4 hP4
    clear hS4 hP4
    go_wp2_with fail
    refine (build9 A n c zs _ (h.later hX4) (by omega)).mono ?_
    rintro e _ ⟨rfl, rfl⟩
    go_wp2_with fail
    refine (newClient8 (some ⟨W4.heap.size, 0, none⟩) n n u sd _).mono ?_
    rintro e _ ⟨rfl, rfl⟩
    have HQ : Hid _ := QAt_new (w := W4) (n := n) (q := plainQ zs) (u := u) (sd := sd) hl0 (by omega)
    have hX45 := below_new W4 (.cells (qCells (plainQ zs)).toArray 36) (.cells (cli (some ⟨W4.heap.size, 0, none⟩) n n u sd) 60)
    go_wp2_with fail
    refine (enqueue10 W4.heap.size (W4.heap.size + 1) n u (some ⟨W4.heap.size, 0, none⟩) (plainQ zs) sd sa pa _ (by exact HQ.out) HT.out (by omega)).mono ?_
    rintro e W6 ⟨rfl, ⟨A6, c6, hQ6⟩, hb6, _⟩
    rw [HR.out.1.1] at hQ6
    have hX46 : Below W4.heap.size W4 W6 := hX45.trans hb6
    clear HQ hX45 hb6
    go_wp2_with fail
    refine (enqueue10 W4.heap.size (W4.heap.size + 1) c6 ra.2 A6 ra.1 sd sb pb W6 hQ6 HTT.out.1 (by omega)).mono ?_
    rintro e W7 ⟨rfl, ⟨A7, c7, hQ7⟩, hb7, _⟩
    rw [HR.out.2.1] at hQ7
    have hX47 : Below W4.heap.size W4 W7 := hX46.trans hb7
    have hX7 : Below w.heap.size w W7 := hX4.trans (hX47.mono hX4.size)
    clear hb7 hQ6 hX46
    go_wp2_with fail
    refine (build9 A n c zs _ (h.later hX7) (by omega)).mono ?_
    rintro e _ ⟨rfl, rfl⟩
    go_wp2_with fail
    refine (newClient8 (some ⟨W7.heap.size, 0, none⟩) n n u sd _).mono ?_
    rintro e _ ⟨rfl, rfl⟩
    have HQ : Hid _ := QAt_new (w := W7) (n := n) (q := plainQ zs) (u := u) (sd := sd) hl0 (by omega)
    have hX78 := below_new W7 (.cells (qCells (plainQ zs)).toArray 36) (.cells (cli (some ⟨W7.heap.size, 0, none⟩) n n u sd) 60)
    go_wp2_with fail
    refine (enqueue10 W7.heap.size (W7.heap.size + 1) n u (some ⟨W7.heap.size, 0, none⟩) (plainQ zs) sd sb pb _ (by exact HQ.out) HT.out (by omega)).mono ?_
    rintro e W9 ⟨rfl, ⟨A9, c9, hQ9⟩, hb9, _⟩
    rw [HR.out.1.2] at hQ9
    have hX79 : Below W7.heap.size W7 W9 := hX78.trans hb9
    clear HQ hX78 hb9
    go_wp2_with fail
    refine (enqueue10 W7.heap.size (W7.heap.size + 1) c9 rb.2 A9 rb.1 sd sa pa W9 hQ9 HTT.out.2 (by omega)).mono ?_
    rintro e W10 ⟨rfl, ⟨A10, c10, hQ10⟩, hb10, _⟩
    rw [HR.out.2.2] at hQ10
    have hX710 : Below W7.heap.size W7 W10 := hX79.trans hb10
    have hX10 : Below w.heap.size w W10 := hX7.trans (hX710.mono hX7.size)
    have hX410 : Below W4.heap.size W4 W10 := hX47.trans (hX710.mono hX47.size)
    have hQa := hQ7.later hX710
    have hS10 := HS4.out.1.later hX410
    have hP10 := HS4.out.2.later hX410
    clear hb10 hQ9 hX79 hQ7
    go_wp2_with fail
    refine (queueOf11 W4.heap.size (W4.heap.size + 1) c7 rab.2 A7 rab.1 sd W10 hQa).mono ?_
    rintro e W11 ⟨rfl, n11, hw11⟩
    have hb11 : Below W10.heap.size W10 W11 := by rw [hw11]; exact below_drewN (Below.refl _ _) _
    have hQa11 := hQa.later hb11
    have hQb11 := hQ10.later hb11
    have hS11 := hS10.later hb11
    have hP11 := hP10.later hb11
    have hX11 : Below w.heap.size w W11 := hX10.trans (hb11.mono hX10.size)
    clear hw11 hQa hQ10 hS10 hP10 hX10 hb11
    go_wp2_with fail
    refine (queueOf11 W7.heap.size (W7.heap.size + 1) c10 rba.2 A10 rba.1 sd W11 hQb11).mono ?_
    rintro e W12 ⟨rfl, n12, hw12⟩
    have hb12 : Below W11.heap.size W11 W12 := by rw [hw12]; exact below_drewN (Below.refl _ _) _
    have hQa12 := hQa11.later hb12
    have hQb12 := hQb11.later hb12
    have hS12 := hS11.later hb12
    have hP12 := hP11.later hb12
    have hX12 : Below w.heap.size w W12 := hX11.trans (hb12.mono hX11.size)
    clear hw12 hQa11 hQb11 hS11 hP11 hX11 hb12
    obtain ⟨g, hA12, _, _, hev12⟩ := hQa12.shape
    obtain ⟨g2, hA12b, _, _, hev12b⟩ := hQb12.shape
    rw [HSW.out.1] at hA12b hev12b ⊢
    rw [← HSW.out.2.1]
    go_wp2_with fail
    refine (same12 g c7 cs4 cp4 rab.2 A7 SA4 PA4 rab.1 W12 hA12 hev12 hS12 hP12 (by omega)).mono ?_
    rintro e W13 ⟨rfl, n13, hw13⟩
    have hb13 : Below W12.heap.size W12 W13 := by rw [hw13]; exact below_drewN (Below.refl _ _) _
    have hX13 : Below w.heap.size w W13 := hX12.trans (hb13.mono hX12.size)
    have f1 : ∀ j, j < rab.1.length → W13.cell? ⟨g, j * 10 + 1, none⟩ = some (.int .u64 (sq rab.1 j)) := fun j hj => ((hev12 j hj).later hb13 (hev12 j hj).lt).c1
    have f2 : ∀ j, j < rab.1.length → W13.cell? ⟨g2, j * 10 + 1, none⟩ = some (.int .u64 (sq rab.1 j)) := fun j hj => by
      rw [HSW.out.2.2]
      exact ((hev12b j hj).later hb13 (hev12b j hj).lt).c1
    have HF : Hid _ := And.intro f1 f2
    clear hw13 hQa12 hQb12 hS12 hP12 hX12 hb13 hev12 hev12b f1 f2
    generalize hN : rab.1.length = N at *
    generalize rab.2 = U at *
    clear hN
    go_wp2_with fail
    go_loopw [28] (fun i wr => ∃ k : Nat, k ≤ N ∧ i = .int .i64 k ∧ ∃ m, wr = W13.drewN m) (fun i _ => N - (intOf i).toNat)
    case atStart => exact ⟨0, Nat.zero_le _, rfl, 0, rfl⟩
    case round =>
      obtain ⟨k, hk, rfl, m, rfl⟩ := hrel
      by_cases hlt : k < N
      · obtain rfl := hA12 (by omega)
        obtain rfl := hA12b (by omega)
        have f1 := HF.out.1 k hlt
        have f2 := HF.out.2 k hlt
        generalize sq rab.1 k = x at *
        have i1 : (k : Int) < (N : Int) := by omega
        have d1 : (x != x) = false := by simp
        clear hA12 hA12b
        go_wp2
        go_quiet (fail)
        go_wp2
        go_roundw
        case rel => exact ⟨k + 1, by omega, by go_num, _, rfl⟩
        case measure => simp [intOf]; omega
      · go_wp2
        go_ret
        exact ⟨rfl, below_drewN hX13 _⟩
  · go_wp2
    go_ret
    exact ⟨rfl, below_drewN (Below.refl _ _) _⟩

end Go.Proofs.Qxb6612944a
