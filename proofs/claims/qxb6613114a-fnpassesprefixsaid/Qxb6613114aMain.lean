import Derived.Test.Qxb6613114aJoin
namespace Go.Proofs.Qxb6613114a
open Go.RowKit

set_option maxHeartbeats 1000000 in
theorem bytes4 (A A' : Option Addr) (n c m c' : Nat) (w : World) (hn : n ≤ 65536) (hm : m ≤ 65536) : Calls Try.prog 4 #[.slice A n c, .slice A' m c'] w fun e w' => e = .returned (.bool true) ∧ w = w' := by
  go_enter Try.func4, Try.ntmps4
  go_wp2
  go_ret
  exact ⟨rfl, rfl⟩

/-- copy(zzc, e): all of it. -/
theorem copy_bytes {w : World} {n c : Nat} {a : Addr} {zs : List Int} (h : Bytes w (some a) n zs) (ty : TypeId) :
    ∃ w', (Builtin.copy_ #[22, 22] ty #[.slice (some ⟨w.heap.size, 0, none⟩) n n, .slice (some a) n c]).run Try.prog (w.alloc (.cells (Row (List.replicate n 0)) 5)) = .ok (.int .i64 (n : Int)) w' ∧ Bytes w' (some ⟨w.heap.size, 0, none⟩) n zs ∧ Below w.heap.size w w' := by
  have hl := h.length
  have hb1 : Below w.heap.size w (w.alloc (.cells (Row (List.replicate n 0)) 5)) := (Below.refl _ _).alloc (Nat.le_refl _) _
  have h1 := h.later hb1
  have hs : (Try.prog.info? 5).map (·.size) = some 1 := by kernel_rfl
  have hr := run_copy_row (P := Try.prog) (w.alloc (.cells (Row (List.replicate n 0)) 5)) 22 22 ty 5 w.heap.size 0 n n a n c (Row (List.replicate n 0)) 5 (zs.map (Value.int .u8)) Try.underlying22 hs (heap_alloc_new w _) (by simp [hl]) (fun j u hu => by
    rw [List.getElem?_map] at hu
    obtain ⟨x, hx1, rfl⟩ := Option.map_eq_some_iff.1 hu
    exact h1.addr j x hx1) (by simp [Row, hl]) (fun u hu => by
    obtain ⟨x, _, rfl⟩ := List.mem_map.1 hu
    rfl)
  rw [List.length_map, hl] at hr
  refine ⟨_, hr, ?_, ?_⟩
  · have hrow : ((Row (List.replicate n 0)).toList.take 0 ++ zs.map (Value.int .u8) ++ (Row (List.replicate n 0)).toList.drop (0 + n)).toArray = Row (zs ++ []) := by
      rw [List.drop_of_length_le (by simp [Row])]
      simp [Row]
    rw [hrow]
    exact bytes_row (setRow_heap _ _ _ _ 5 _ (heap_alloc_new w _)) hl
  · exact hb1.trans ⟨rfl, rfl, rfl, by simp, fun k hk => setRow_other _ _ k _ (by omega)⟩

set_option maxRecDepth 100000 in
set_option maxHeartbeats 2000000 in
theorem main3 (A A' : Option Addr) (n c m c' : Nat) (zs xs : List Int) (w : World) (h : Bytes w A n zs) (h' : Bytes w A' m xs) (hc : A = none → c = 0) (hc' : A' = none → c' = 0) (hn : n ≤ 65536) (hm : m ≤ 65536) :
    Calls Try.prog 3 #[.slice A n c, .slice A' m c'] w fun e w' => e = .returned (.bool true) ∧ Below w.heap.size w w' := by
  have hzl := h.length
  have hxl := h'.length
  cases A with
  | none =>
    obtain rfl := h.nil
    obtain rfl := hc rfl
    have hE := h
    have hX := h'
    have hbE := Below.refl w.heap.size w
    clear h h' hc
    go_enter Try.func3, Try.ntmps3
    go_wp2_with fail
    refine (bytes4 none A' 0 0 m c' w hn hm).mono ?_
    rintro e _ ⟨rfl, rfl⟩
    go_wp2_with fail
    refine (join5 hE hX (fun _ => rfl) hc' hn hm).mono ?_
    rintro e W3 ⟨rfl, hJ, hbJ⟩
    rw [Nat.zero_add] at hJ
    have hE3 := hE.later hbJ
    have hX3 : Below w.heap.size w W3 := hbE.trans (hbJ.mono hbE.size)
    clear hE hX hbJ
    go_wp2_with fail
    refine (passes6 hJ hE3).mono ?_
    rintro e _ ⟨rfl, rfl⟩
    rw [longer_law, hzl, hxl]
    go_wp2_with fail
    refine (passes6 hE3 hJ).mono ?_
    rintro e _ ⟨rfl, rfl⟩
    rw [shorter_law, hzl, hxl]
    clear hE3 hJ
    by_cases h1 : m = 0
    · subst h1
      go_wp2_with fail
      go_ret
      exact ⟨rfl, hX3⟩
    · have j1 : decide (0 < m) = true := by simp; omega
      have j2 : decide ((0 : Int) < (m : Int)) = true := by simp; omega
      rw [j1]
      go_wp2_with fail
      go_ret
      exact ⟨rfl, hX3⟩
  | some a =>
    have hmk := make_bytes n n (Nat.le_refl _) (by omega) w
    obtain ⟨W2, hr, hE, hbE⟩ := copy_bytes (c := c) h 3
    have hX := h'.later hbE
    clear h h' hc
    go_enter Try.func3, Try.ntmps3
    go_wp2_with fail
    refine (bytes4 (some a) A' n c m c' w hn hm).mono ?_
    rintro e _ ⟨rfl, rfl⟩
    go_wp2_with fail
    refine (join5 hE hX (fun e => by cases e) hc' hn hm).mono ?_
    rintro e W3 ⟨rfl, hJ, hbJ⟩
    have hE3 := hE.later hbJ
    have hX3 : Below w.heap.size w W3 := hbE.trans (hbJ.mono hbE.size)
    clear hE hX hbJ
    go_wp2_with fail
    refine (passes6 hJ hE3).mono ?_
    rintro e _ ⟨rfl, rfl⟩
    rw [longer_law, hzl, hxl]
    go_wp2_with fail
    refine (passes6 hE3 hJ).mono ?_
    rintro e _ ⟨rfl, rfl⟩
    rw [shorter_law, hzl, hxl]
    clear hE3 hJ
    by_cases h0 : n = 0
    · subst h0
      by_cases h1 : m = 0
      · subst h1
        go_wp2_with fail
        go_ret
        exact ⟨rfl, hX3⟩
      · have j1 : decide (0 < m) = true := by simp; omega
        have j2 : decide ((0 : Int) < (m : Int)) = true := by simp; omega
        rw [j1]
        go_wp2_with fail
        go_ret
        exact ⟨rfl, hX3⟩
    · have i1 : decide (0 < n) = true := by simp; omega
      have i2 : decide ((0 : Int) < (n : Int)) = true := by simp; omega
      have i3 : decide (n = 0) = false := by simp; omega
      have i4 : ((n : Int) == 0) = false := by simp [h0]
      rw [i1, i3]
      by_cases h1 : m = 0
      · subst h1
        go_wp2_with fail
        go_ret
        exact ⟨rfl, hX3⟩
      · have j1 : decide (0 < m) = true := by simp; omega
        have j2 : decide ((0 : Int) < (m : Int)) = true := by simp; omega
        rw [j1]
        go_wp2_with fail
        go_ret
        exact ⟨rfl, hX3⟩

end Go.Proofs.Qxb6613114a
