import Derived.Test.Qxb6612944aRows
import Derived.Test.Qxb6612944aCopyK
import Derived.WalkSpells
import Derived.WalkLawsBesides
import Derived.Lib.AppendZerosOnto
import Derived.Lib.Overlaps
import Derived.Laws.Externs
import Derived.Deep.RegionLaw
import Derived.Deep.AppendLies
namespace Go.Proofs.Qxb6612944a
open Go.RowKit

/-- The cells of an event with sequence s and priority p, all else zero. -/
def evCells (s p : Int) : List Value := [.string ByteArray.empty, .int .u64 s, .int .i64 p, .int .u64 0, .slice none 0 0, .string ByteArray.empty, .string ByteArray.empty, .string ByteArray.empty, .string ByteArray.empty, .slice none 0 0]

theorem Try.info36 : (Try.prog.info? 36).map (fun i => (i.zero, i.size, i.bytes)) = some (some (.agg (evCells 0 0).toArray), 10, 152) := by kernel_rfl

theorem lt_of_heap {w : World} {b : Nat} {o : Obj} (h : w.heap[b]? = some o) : b < w.heap.size := by
  rcases Nat.lt_or_ge b w.heap.size with h' | h'
  · exact h'
  · rw [Array.getElem?_eq_none h'] at h; cases h

theorem row_shape {w : World} {B : Nat} {A : Option Addr} {n c : Nat} {xs : List Value} (hown : w.ownsRow B 36 10 (.slice A n c) n xs) :
    (A = none ∧ n = 0 ∧ c = 0) ∨ ∃ g cur, A = some ⟨g, 0, none⟩ ∧ B ≤ g ∧ w.heap[g]? = some (.cells cur 36 (0, 0)) ∧ n ≤ c ∧ c ≤ maxLen ∧ cur.size = c * 10 ∧ cur.toList.take (n * 10) = xs := by
  rcases hown.2 with ⟨h, h'⟩ | ⟨g, cap, cur, h, h1, h2, h3, h4, h5, h6⟩
  · simp only [Value.slice.injEq] at h
    obtain ⟨rfl, rfl, rfl⟩ := h
    exact .inl ⟨rfl, rfl, rfl⟩
  · simp only [Value.slice.injEq] at h
    obtain ⟨rfl, _, rfl⟩ := h
    exact .inr ⟨g, cur, rfl, h1, h2, h3, h4, h5, h6⟩

set_option maxRecDepth 100000 in
set_option maxHeartbeats 1000000 in
/-- slices.Insert at the end. -/
theorem insert_end (B n c vb : Nat) (A : Option Addr) (xs ev : List Value) (w : World) (hown : w.ownsRow B 36 10 (.slice A n c) n xs) (hv : w.heap[vb]? = some (.cells ev.toArray 36 (0, 0))) (hev : ev.length = 10)
    (h1 : ∀ u ∈ ev, u.oneCell' = true) (hn : n ≤ 5000) (hB : B ≤ w.heap.size) :
    Calls Try.prog 22 #[.slice A n c, .int .i64 n, .slice (some ⟨vb, 0, none⟩) 1 1] w fun e w' => ∃ A' c', e = .returned (.slice A' (n + 1) c') ∧ w'.ownsRow B 36 10 (.slice A' (n + 1) c') (n + 1) (xs ++ ev) ∧
      w.grownBy w' (Value.ownBlock (.slice A n c)) := by
  obtain ⟨i0, hi, hz0, hz1, hz2⟩ := info_parts Try.info36
  obtain ⟨v', w1, hr, ho, hg, _⟩ := run_append_own (P := Try.prog) w B 31 31 36 i0 _ 10 152 Try.underlying31 hi hz0 hz1 hz2 rfl (by decide) _ n xs hown ⟨vb, 0, none⟩ 1 1 ev (by simp [hev]) (World.news_of_block hv) h1 (by unfold maxLen; omega) (by omega) hB
  have hv' : ∃ A' c', v' = .slice A' (n + 1) c' := by
    rcases ho.2 with ⟨h, h'⟩ | ⟨g, cap, cur, h, _⟩
    · omega
    · exact ⟨_, _, h⟩
  obtain ⟨A', c', rfl⟩ := hv'
  have hsh := row_shape hown
  clear hv hown h1 hi hz0 hz1 hz2 hev
  rcases hsh with ⟨rfl, rfl, rfl⟩ | ⟨g, cur, rfl, _, _, hnc, hcm, _, _⟩
  · clear i0
    go_enter Try.func22, Try.ntmps22
    go_wp2_with (at_builtin; refine Lib.wpList_append_run _ rfl _ _ _ _ rfl _ _ rfl rfl _ _ hr ?_)
    go_ret
    exact ⟨A', c', rfl, ho, hg⟩
  · unfold maxLen at hcm
    have hnc' : (n : Int) ≤ (c : Int) := by omega
    go_enter Try.func22, Try.ntmps22
    go_wp2_with (at_builtin; refine Lib.wpList_append_run _ rfl _ _ _ _ rfl _ _ rfl rfl _ _ hr ?_)
    all_goals (go_ret; exact ⟨A', c', rfl, ho, hg⟩)

theorem size36 : (Try.prog.info? 36).map (·.size) = some 10 := by kernel_rfl

theorem add_at (g o j : Nat) : (⟨g, o, none⟩ : Addr).add j = ⟨g, o + j, none⟩ := by unfold Addr.add; split <;> simp_all

set_option maxRecDepth 100000 in
set_option maxHeartbeats 1000000 in
/-- slices.Insert ahead of the end, where there is room. -/
theorem insert_shift (B n c i vb g : Nat) (cur : Array Value) (xs ev : List Value) (w : World) (hgB : B ≤ g) (hg : w.heap[g]? = some (.cells cur 36 (0, 0))) (hc : n + 1 ≤ c) (hcm : c ≤ maxLen) (hcs : cur.size = c * 10) (hxs : cur.toList.take (n * 10) = xs)
    (hv : w.heap[vb]? = some (.cells ev.toArray 36 (0, 0))) (hev : ev.length = 10) (hvg : vb ≠ g) (hi : i < n)
    (h1 : ∀ u ∈ ev, u.oneCell' = true) (h1x : ∀ u ∈ xs, u.oneCell' = true) (hn : n ≤ 5000) :
    Calls Try.prog 22 #[.slice (some ⟨g, 0, none⟩) n c, .int .i64 i, .slice (some ⟨vb, 0, none⟩) 1 1] w fun e w' => ∃ A' c', e = .returned (.slice A' (n + 1) c') ∧ w'.ownsRow B 36 10 (.slice A' (n + 1) c') (n + 1) (xs.take (i * 10) ++ (ev ++ xs.drop (i * 10))) ∧
      w.grownBy w' (some g) := by
  unfold maxLen at hcm
  have hxl : xs.length = n * 10 := by rw [← hxs]; simp; omega
  obtain ⟨R1, hR1⟩ : ∃ R1, R1 = cur.toList.take (i * 10 + 10) ++ xs.drop (i * 10) ++ cur.toList.drop (i * 10 + 10 + (n * 10 - i * 10)) := ⟨_, rfl⟩
  have hR1l : R1.length = cur.size := by rw [hR1]; simp; omega
  have hsl := shift_list cur.toList xs ev (i * 10) (n * 10) 10 hxs (by omega) (by simp; omega) hev R1 hR1
  obtain ⟨R2, hR2⟩ : ∃ R2, R2 = R1.take (i * 10) ++ ev ++ R1.drop (i * 10 + 10) := ⟨_, rfl⟩
  rw [← hR2] at hsl
  have hov : ∀ lb cb, (callFunc 26 #[.slice (some ⟨vb, 0, none⟩) 1 1, .slice (some ⟨g, (i + 1) * 10, none⟩) lb cb]).run Try.prog w = .ok (.value (.bool false)) w := fun lb cb => by
    rw [run_callFunc_extern Try.func26 (by kernel_rfl) (by kernel_rfl) (by kernel_rfl) (e := Extern.SlicesOverlaps.overlaps #[31, 31] #[4]) (by kernel_rfl),
      Lib.run_overlaps_apart w 31 4 36 Try.underlying31 10 Try.sizeOf36 ⟨vb, 0, none⟩ ⟨g, (i + 1) * 10, none⟩ 1 1 lb cb hvg 36 36 10 (c * 10) (by simp [World.shape?, hv, hev]) (by simp [World.shape?, hg, hcs]) (by omega) (by simp [World.frozen?, hv]) (by simp [World.frozen?, hv])]
    rfl
  have hw1 : IntKind.i64.wrap ((i : Int) + 1) = (i : Int) + 1 := by rw [IntKind.wrap_i64]; omega
  have hi1 : (i : Int) ≤ (n : Int) := by omega
  have hi2 : ¬ ((i : Int) = (n : Int)) := by omega
  have hi3 : ((i : Int) + 1).toNat = i + 1 := by omega
  have hi4 : ¬ (c = i + 1) := by omega
  have hi5 : ¬ (c = i) := by omega
  have hi6 : (i : Int) + 1 ≤ (n : Int) + 1 := by omega
  have hi7 : (0 : Int) ≤ (i : Int) + 1 := by omega
  have hi8 : (i : Int) ≤ (n : Int) + 1 := by omega
  have hi9 : i ≤ n := by omega
  have hdl : (xs.drop (i * 10)).length = (n - i) * 10 := by rw [List.length_drop, hxl]; omega
  have hvb := lt_of_heap hv
  have hcp1 : ∀ ty, (Builtin.copy_ #[31, 31] ty #[.slice (some ⟨g, (i + 1) * 10, none⟩) (n - i) (c - (i + 1)), .slice (some ⟨g, i * 10, none⟩) (n + 1 - i) (c - i)]).run Try.prog w.drew = .ok (goInt ((n - i : Nat) : Int)) (w.drew.setRow g R1.toArray) := fun ty => by
    have := run_copy_rowK (P := Try.prog) w.drew 31 31 ty 36 g ((i + 1) * 10) (n - i) (c - (i + 1)) ⟨g, i * 10, none⟩ (n + 1 - i) (c - i) cur 36 (xs.drop (i * 10)) 10 (n - i) Try.underlying31 size36 hg (by simp only [Nat.min_def]; split <;> omega) hdl
      (fun j v hj => by
        rw [add_at]
        show w.cell? _ = _
        rw [cell_of_row w g _ cur 36 (0, 0) hg]
        rw [List.getElem?_drop, ← hxs, List.getElem?_take] at hj
        split at hj
        · simpa using hj
        · cases hj)
      (by omega) (fun v hv => h1x v (List.mem_of_mem_drop hv))
    rw [this, hR1, hdl, show (i + 1) * 10 = i * 10 + 10 by omega, show (n - i) * 10 = n * 10 - i * 10 by omega]
  have hW1 : (w.drew.setRow g R1.toArray).heap[g]? = some (.cells R1.toArray 36 (0, 0)) := setRow_heap w.drew g _ _ 36 _ hg
  have hW1v : (w.drew.setRow g R1.toArray).heap[vb]? = some (.cells ev.toArray 36 (0, 0)) := by rw [setRow_other _ _ _ _ hvg]; exact hv
  have hcp2 : ∀ ty, (Builtin.copy_ #[31, 31] ty #[.slice (some ⟨g, i * 10, none⟩) (n + 1 - i) (c - i), .slice (some ⟨vb, 0, none⟩) 1 1]).run Try.prog (w.drew.setRow g R1.toArray) = .ok (goInt ((1 : Nat) : Int)) ((w.drew.setRow g R1.toArray).setRow g R2.toArray) := fun ty => by
    have := run_copy_rowK (P := Try.prog) (w.drew.setRow g R1.toArray) 31 31 ty 36 g (i * 10) (n + 1 - i) (c - i) ⟨vb, 0, none⟩ 1 1 R1.toArray 36 ev 10 1 Try.underlying31 size36 hW1 (by simp only [Nat.min_def]; split <;> omega) (by simp [hev])
      (World.news_of_block hW1v) (by simp; omega) h1
    rw [this, hR2, hev]
  have hfin : ((w.drew.setRow g R1.toArray).setRow g R2.toArray).ownsRow B 36 10 (.slice (some ⟨g, 0, none⟩) (n + 1) c) (n + 1) (xs.take (i * 10) ++ (ev ++ xs.drop (i * 10))) :=
    ⟨by simp [hev, hxl]; omega, .inr ⟨g, c, R2.toArray, rfl, hgB, setRow_heap _ g _ _ 36 _ hW1, hc, by unfold maxLen; omega, by simp [hsl.1, hcs], by rw [show (n + 1) * 10 = n * 10 + 10 by omega]; exact hsl.2⟩⟩
  have hgr : w.grownBy ((w.drew.setRow g R1.toArray).setRow g R2.toArray) (some g) :=
    ⟨rfl, rfl, rfl, by simp [World.setRow], fun k hk hne => by rw [setRow_other _ _ _ _ (fun e => hne (by rw [e])), setRow_other _ _ _ _ (fun e => hne (by rw [e]))]; rfl⟩
  clear hR1 hR2 hsl hv h1 h1x hg hxs hW1 hW1v hdl
  go_enter Try.func22, Try.ntmps22
  go_wp2_with (simp only [hov])
  go_region
  go_wp2
  go_ret
  exact ⟨_, _, rfl, hfin, hgr⟩

set_option maxRecDepth 100000 in
set_option maxHeartbeats 1000000 in
/-- slices.Insert ahead of the end, where there is no room. -/
theorem insert_grow (B n c i vb g : Nat) (cur : Array Value) (xs ev : List Value) (w : World) (hB : B ≤ w.heap.size) (hg : w.heap[g]? = some (.cells cur 36 (0, 0))) (hc : c < n + 1) (hnc : n ≤ c) (hcs : cur.size = c * 10) (hxs : cur.toList.take (n * 10) = xs)
    (hv : w.heap[vb]? = some (.cells ev.toArray 36 (0, 0))) (hev : ev.length = 10) (hi : i < n)
    (h1 : ∀ u ∈ ev, u.oneCell' = true) (h1x : ∀ u ∈ xs, u.oneCell' = true) (hn : n ≤ 5000) :
    Calls Try.prog 22 #[.slice (some ⟨g, 0, none⟩) n c, .int .i64 i, .slice (some ⟨vb, 0, none⟩) 1 1] w fun e w' => ∃ A' c', e = .returned (.slice A' (n + 1) c') ∧ w'.ownsRow B 36 10 (.slice A' (n + 1) c') (n + 1) (xs.take (i * 10) ++ (ev ++ xs.drop (i * 10))) ∧
      w.grownBy w' (some g) := by
  obtain ⟨i0, hi0, hz0, hz1, hz2⟩ := info_parts Try.info36
  have hgl := lt_of_heap hg
  have hvl := lt_of_heap hv
  have hxl : xs.length = n * 10 := by rw [← hxs]; simp; omega
  have hcell : ∀ j v, xs[j]? = some v → w.cell? ⟨g, j, none⟩ = some v := fun j v hj => by
    rw [cell_of_row w g _ cur 36 (0, 0) hg]
    rw [← hxs, List.getElem?_take] at hj
    split at hj
    · simpa using hj
    · cases hj
  have hold : (Builtin.firstCells i0.size i (.slice (some ⟨g, 0, none⟩) i c)).run Try.prog w.drew = .ok (xs.take (i * 10)).toArray w.drew := by
    rw [hz1]
    exact run_firstCells_some w.drew 10 i ⟨g, 0, none⟩ i c (xs.take (i * 10)) (by rw [List.length_take]; omega) (fun j v hj => by
      rw [add_at, Nat.zero_add]
      rw [List.getElem?_take] at hj
      split at hj
      · exact hcell j v hj
      · cases hj)
  have hrz : ∀ ty, (Builtin.append_ #[31, 3] ty #[.slice (some ⟨g, 0, none⟩) i c, .int .i64 ((n + 1 - i : Nat) : Int)]).run Try.prog w =
      .ok (.slice (some ⟨w.heap.size, 0, none⟩) (n + 1) (grownCap w (n + 1) c 36)) (w.drew.alloc (.cells ((xs.take (i * 10)).toArray ++ Builtin.zeroCells (Value.agg (evCells 0 0).toArray).cells (n + 1 - i) ++ Builtin.zeroCells (Value.agg (evCells 0 0).toArray).cells (grownCap w (n + 1) c 36 - (n + 1))) 36)) := fun ty => by
    have h := Lib.run_append_grow_zeros w 31 3 ty 36 i0 _ .i64 .i64 Try.underlying31 Try.underlying3 hi0 hz0 (some ⟨g, 0, none⟩) i c (xs.take (i * 10)) hold (n + 1 - i) (by omega) (by omega) (by omega) (by omega) (by rw [hz2]; omega) (by rw [hz2, show i + (n + 1 - i) = n + 1 by omega]; exact growslice_fits hc (by omega))
    rw [show i + (n + 1 - i) = n + 1 by omega] at h
    exact h
  have hGn := grownCap_ge w (n + 1) c 36
  have hGm := grownCap_le_maxLen w (n + 1) c 36 (by unfold maxLen; omega)
  generalize grownCap w (n + 1) c 36 = G at *
  obtain ⟨ROW, hROW⟩ : ∃ ROW : Array Value, ROW = (xs.take (i * 10)).toArray ++ Builtin.zeroCells (Value.agg (evCells 0 0).toArray).cells (n + 1 - i) ++ Builtin.zeroCells (Value.agg (evCells 0 0).toArray).cells (G - (n + 1)) := ⟨_, rfl⟩
  rw [← hROW] at hrz
  have hz10 : (Value.agg (evCells 0 0).toArray).cells.size = 10 := rfl
  have hRl : ROW.size = G * 10 := by
    rw [hROW]
    simp only [Array.size_append, List.size_toArray, List.length_take, size_zeroCells, hz10]
    omega
  have hRt : ROW.toList.take (i * 10) = xs.take (i * 10) := by
    rw [hROW, Array.append_assoc, Array.toList_append, List.take_append_of_le_length (by simp; omega), List.take_of_length_le (by simp; omega)]
  obtain ⟨R1, hR1⟩ : ∃ R1, R1 = ROW.toList.take (i * 10) ++ ev ++ ROW.toList.drop (i * 10 + 10) := ⟨_, rfl⟩
  have hsl := grow_list ROW.toList xs ev (i * 10) (n * 10) 10 hxl (by omega) (by simp; omega) hev hRt R1 hR1
  obtain ⟨R2, hR2⟩ : ∃ R2, R2 = R1.take (i * 10 + 10) ++ xs.drop (i * 10) ++ R1.drop (i * 10 + 10 + (n * 10 - i * 10)) := ⟨_, rfl⟩
  rw [← hR2] at hsl
  have hdl : (xs.drop (i * 10)).length = (n - i) * 10 := by rw [List.length_drop, hxl]; omega
  have hN : ((w.alloc (.cells ROW 36)).drew).heap[w.heap.size]? = some (.cells ROW 36 (0, 0)) := heap_alloc_new w _
  have hNv : ((w.alloc (.cells ROW 36)).drew).heap[vb]? = some (.cells ev.toArray 36 (0, 0)) := by
    show (w.alloc (.cells ROW 36)).heap[vb]? = _
    rw [Below.heap_alloc _ _ _ hvl]; exact hv
  have hNg : ((w.alloc (.cells ROW 36)).drew).heap[g]? = some (.cells cur 36 (0, 0)) := by
    show (w.alloc (.cells ROW 36)).heap[g]? = _
    rw [Below.heap_alloc _ _ _ hgl]; exact hg
  have hcpA : ∀ ty, (Builtin.copy_ #[31, 31] ty #[.slice (some ⟨w.heap.size, i * 10, none⟩) (n + 1 - i) (G - i), .slice (some ⟨vb, 0, none⟩) 1 1]).run Try.prog ((w.alloc (.cells ROW 36)).drew) = .ok (goInt ((1 : Nat) : Int)) (((w.alloc (.cells ROW 36)).drew).setRow w.heap.size R1.toArray) := fun ty => by
    have := run_copy_rowK (P := Try.prog) ((w.alloc (.cells ROW 36)).drew) 31 31 ty 36 w.heap.size (i * 10) (n + 1 - i) (G - i) ⟨vb, 0, none⟩ 1 1 ROW 36 ev 10 1 Try.underlying31 size36 hN (by simp only [Nat.min_def]; split <;> omega) (by simp [hev])
      (World.news_of_block hNv) (by omega) h1
    rw [this, hR1, hev]
  have hM : ((((w.alloc (.cells ROW 36)).drew).setRow w.heap.size R1.toArray).drew).heap[w.heap.size]? = some (.cells R1.toArray 36 (0, 0)) := setRow_heap _ _ _ _ 36 _ hN
  have hMg : ((((w.alloc (.cells ROW 36)).drew).setRow w.heap.size R1.toArray).drew).heap[g]? = some (.cells cur 36 (0, 0)) := by
    show (((w.alloc (.cells ROW 36)).drew).setRow w.heap.size R1.toArray).heap[g]? = _
    rw [setRow_other _ _ _ _ (Nat.ne_of_lt hgl)]; exact hNg
  have hcpB : ∀ ty, (Builtin.copy_ #[31, 31] ty #[.slice (some ⟨w.heap.size, (i + 1) * 10, none⟩) (n - i) (G - (i + 1)), .slice (some ⟨g, i * 10, none⟩) (n - i) (c - i)]).run Try.prog ((((w.alloc (.cells ROW 36)).drew).setRow w.heap.size R1.toArray).drew) =
      .ok (goInt ((n - i : Nat) : Int)) (((((w.alloc (.cells ROW 36)).drew).setRow w.heap.size R1.toArray).drew).setRow w.heap.size R2.toArray) := fun ty => by
    have := run_copy_rowK (P := Try.prog) ((((w.alloc (.cells ROW 36)).drew).setRow w.heap.size R1.toArray).drew) 31 31 ty 36 w.heap.size ((i + 1) * 10) (n - i) (G - (i + 1)) ⟨g, i * 10, none⟩ (n - i) (c - i) R1.toArray 36 (xs.drop (i * 10)) 10 (n - i) Try.underlying31 size36 hM (by simp only [Nat.min_def]; split <;> omega) hdl
      (fun j v hj => by
        rw [add_at, cell_of_row _ g _ cur 36 (0, 0) hMg]
        rw [List.getElem?_drop, ← hxs, List.getElem?_take] at hj
        split at hj
        · simpa using hj
        · cases hj)
      (by simp [hsl.1]; omega) (fun v hv => h1x v (List.mem_of_mem_drop hv))
    rw [this, hR2, hdl, show (i + 1) * 10 = i * 10 + 10 by omega, show (n - i) * 10 = n * 10 - i * 10 by omega]
  have hfin : (((((w.alloc (.cells ROW 36)).drew).setRow w.heap.size R1.toArray).drew).setRow w.heap.size R2.toArray).ownsRow B 36 10 (.slice (some ⟨w.heap.size, 0, none⟩) (n + 1) G) (n + 1) (xs.take (i * 10) ++ (ev ++ xs.drop (i * 10))) :=
    ⟨by simp [hev, hxl]; omega, .inr ⟨w.heap.size, G, R2.toArray, rfl, hB, setRow_heap _ _ _ _ 36 _ hM, hGn, hGm, by simp [hsl.2.1, hRl], by rw [show (n + 1) * 10 = n * 10 + 10 by omega]; exact hsl.2.2⟩⟩
  have hgr : w.grownBy (((((w.alloc (.cells ROW 36)).drew).setRow w.heap.size R1.toArray).drew).setRow w.heap.size R2.toArray) (some g) :=
    ⟨rfl, rfl, rfl, by simp [World.setRow], fun k hk hne => by
      rw [setRow_other _ _ _ _ (Nat.ne_of_lt hk)]
      show (((w.alloc (.cells ROW 36)).drew).setRow w.heap.size R1.toArray).heap[k]? = _
      rw [setRow_other _ _ _ _ (Nat.ne_of_lt hk)]
      exact Below.heap_alloc w _ k hk⟩
  have hw1 : IntKind.i64.wrap ((i : Int) + 1) = (i : Int) + 1 := by rw [IntKind.wrap_i64]; omega
  have hi1 : (i : Int) ≤ (n : Int) := by omega
  have hi2 : ¬ ((i : Int) = (n : Int)) := by omega
  have hi3 : ((i : Int) + 1).toNat = i + 1 := by omega
  have hi4 : ¬ (G = i + 1) := by omega
  have hi5 : ¬ (G = i) := by omega
  have hi5c : ¬ (c = i) := by omega
  have hi6 : (i : Int) + 1 ≤ (n : Int) + 1 := by omega
  have hi7 : (0 : Int) ≤ (i : Int) + 1 := by omega
  have hi8 : (i : Int) ≤ (n : Int) + 1 := by omega
  have hi9 : i ≤ n := by omega
  have hi10 : (c : Int) < (n : Int) + 1 := by omega
  have hi11 : (n : Int) + 1 - (i : Int) = ((n + 1 - i : Nat) : Int) := by omega
  unfold maxLen at hGm
  clear hR1 hR2 hsl hv h1 h1x hg hxs hdl hN hNv hNg hM hMg hRl hRt hROW hcell hold hi0 hz0 hz1 hz2 hz10 i0 hcs
  go_enter Try.func22, Try.ntmps22
  go_wp2_with (first | (at_builtin; refine Lib.wpList_append_run _ rfl _ _ _ _ rfl _ _ rfl rfl _ _ (hrz _) ?_) | (at_builtin; refine wpList_copy_run _ rfl _ _ _ _ rfl _ _ rfl rfl (hcpA _) ?_))
  go_region
  go_wp2
  go_ret
  exact ⟨_, _, rfl, hfin, hgr⟩

/-- slices.Insert of one event, at whatever place, of a row of the call's own. -/
theorem insert22 (B n c i vb : Nat) (A : Option Addr) (xs ev : List Value) (w : World) (hown : w.ownsRow B 36 10 (.slice A n c) n xs) (hv : w.heap[vb]? = some (.cells ev.toArray 36 (0, 0))) (hev : ev.length = 10) (hvA : Value.ownBlock (.slice A n c) ≠ some vb)
    (h1 : ∀ u ∈ ev, u.oneCell' = true) (h1x : ∀ u ∈ xs, u.oneCell' = true) (hn : n ≤ 5000) (hB : B ≤ w.heap.size) (hi : i ≤ n) :
    Calls Try.prog 22 #[.slice A n c, .int .i64 i, .slice (some ⟨vb, 0, none⟩) 1 1] w fun e w' => ∃ A' c', e = .returned (.slice A' (n + 1) c') ∧ w'.ownsRow B 36 10 (.slice A' (n + 1) c') (n + 1) (xs.take (i * 10) ++ (ev ++ xs.drop (i * 10))) ∧
      w.grownBy w' (Value.ownBlock (.slice A n c)) := by
  have hxl : xs.length = n * 10 := hown.1
  by_cases hin : i = n
  · subst hin
    rw [List.take_of_length_le (by omega), List.drop_eq_nil_of_le (by omega), List.append_nil]
    exact insert_end B i c vb A xs ev w hown hv hev h1 hn hB
  · rcases row_shape hown with ⟨rfl, rfl, rfl⟩ | ⟨g, cur, rfl, hgB, hg, hnc, hcm, hcs, hxs⟩
    · omega
    · by_cases hc : n + 1 ≤ c
      · exact insert_shift B n c i vb g cur xs ev w hgB hg hc hcm hcs hxs hv hev (fun e => hvA (by rw [e]; rfl)) (by omega) h1 h1x hn
      · exact insert_grow B n c i vb g cur xs ev w hB hg (by omega) hnc hcs hxs hv hev (by omega) h1 h1x hn

end Go.Proofs.Qxb6612944a
