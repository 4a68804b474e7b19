import Derived.Test.Qxb6612944aQueue
namespace Go.Proofs.Qxb6612944a
open Go.RowKit

/-- The numbers zs lie at A in w. -/
structure Ints (w : World) (k : IntKind) (A : Option Addr) (n : Nat) (zs : List Int) : Prop where
  length : zs.length = n
  cells : 0 < n → ∃ b o, A = some ⟨b, o, none⟩ ∧ ∀ i, i < n → w.cell? ⟨b, o + i, none⟩ = some (.int k (zs.getD i 0))

theorem Ints.later {w w' : World} {k : IntKind} {A : Option Addr} {n : Nat} {zs : List Int} (h : Ints w k A n zs) (hb : Below w.heap.size w w') : Ints w' k A n zs :=
  ⟨h.length, fun hn => by
    obtain ⟨b, o, hA, hc⟩ := h.cells hn
    exact ⟨b, o, hA, fun i hi => by rw [hb.cell (World.block_lt_of_cell? _ _ (hc i hi))]; exact hc i hi⟩⟩

theorem Ints.parts {w : World} {k : IntKind} {A : Option Addr} {n : Nat} {zs : List Int} (h : Ints w k A n zs) : ∃ b o, (0 < n → A = some ⟨b, o, none⟩) ∧ (0 < n → b < w.heap.size) ∧ ∀ i, i < n → w.cell? ⟨b, o + i, none⟩ = some (.int k (zs.getD i 0)) := by
  by_cases h0 : 0 < n
  · obtain ⟨b, o, hA, hc⟩ := h.cells h0
    exact ⟨b, o, fun _ => hA, fun _ => World.block_lt_of_cell? _ _ (hc 0 h0), hc⟩
  · exact ⟨0, 0, fun h => absurd h h0, fun h => absurd h h0, fun i hi => by omega⟩

/-- The cells of a block that holds the numbers 'zs' of kind k. -/
def Row (k : IntKind) (zs : List Int) : Array Value := (zs.map (Value.int k)).toArray

theorem Row_get (k : IntKind) (zs : List Int) (i : Nat) (h : i < zs.length) : (Row k zs)[i]? = some (.int k (zs.getD i 0)) := by
  simp [Row, h]

theorem Row_set (k : IntKind) (zs : List Int) (i : Nat) (v : Int) : (Row k zs).setIfInBounds i (.int k v) = Row k (zs.set i v) := by
  simp [Row]

theorem Row_made (k : IntKind) (n : Nat) : madeCells (Value.int k 0).cells (n * 1) = Row k (List.replicate n 0) := by
  apply Array.ext'
  rw [show (Value.int k 0).cells = #[.int k 0] from rfl, toList_madeCells_one]
  simp [Row]

/-- The first m numbers of T laid, zeros behind. -/
def fill (T : List Int) (m : Nat) : List Int := T.take m ++ List.replicate (T.length - m) 0

theorem fill_zero (T : List Int) : fill T 0 = List.replicate T.length 0 := by simp [fill]
theorem fill_all (T : List Int) : fill T T.length = T := by simp [fill]
theorem fill_length (T : List Int) (m : Nat) (h : m ≤ T.length) : (fill T m).length = T.length := by simp [fill]; omega
theorem fill_step (T : List Int) (m : Nat) (h : m < T.length) : (fill T m).set m (T.getD m 0) = fill T (m + 1) := by
  have hl : (T.take m).length = m := by simp; omega
  unfold fill
  rw [List.set_append_right _ _ (by omega), hl, Nat.sub_self]
  obtain ⟨r, hr⟩ : ∃ r, T.length - m = r + 1 := ⟨T.length - m - 1, by omega⟩
  rw [hr, List.replicate_succ, List.set_cons_zero, List.take_succ_eq_append_getElem h, List.append_assoc, show T.length - (m + 1) = r by omega]
  simp [List.getD, h]

theorem Try.info23 : (Try.prog.info? 23).map (fun i => (i.zero, i.size, i.bytes)) = some (some (.int .u64 0), 1, 8) := by kernel_rfl
theorem Try.info3 : (Try.prog.info? 3).map (fun i => (i.zero, i.size, i.bytes)) = some (some (.int .i64 0), 1, 8) := by kernel_rfl

theorem make_u64 (n : Nat) (hn : n ≤ 5000) (w : World) : (Instr.makeSlice 22 (.int .i64 (n : Int)) (.int .i64 (n : Int))).run Try.prog w = .ok (.slice (some ⟨w.heap.size, 0, none⟩) n n) (w.alloc (.cells (Row .u64 (List.replicate n 0)) 23)) := by
  obtain ⟨i, hi, hz0, hz1, hz2⟩ := info_parts Try.info23
  have := run_make (P := Try.prog) w 22 23 i (.int .u64 0) Try.underlying22 hi hz0 .i64 .i64 n n (by omega) (Int.le_refl _) (by rw [hz2]; omega) (by omega)
  rw [hz1, Int.toNat_natCast, Row_made] at this
  exact this

theorem make_i64 (n : Nat) (hn : n ≤ 5000) (w : World) : (Instr.makeSlice 26 (.int .i64 (n : Int)) (.int .i64 (n : Int))).run Try.prog w = .ok (.slice (some ⟨w.heap.size, 0, none⟩) n n) (w.alloc (.cells (Row .i64 (List.replicate n 0)) 3)) := by
  obtain ⟨i, hi, hz0, hz1, hz2⟩ := info_parts Try.info3
  have := run_make (P := Try.prog) w 26 3 i (.int .i64 0) Try.underlying26 hi hz0 .i64 .i64 n n (by omega) (Int.le_refl _) (by rw [hz2]; omega) (by omega)
  rw [hz1, Int.toNat_natCast, Row_made] at this
  exact this

/-- A block of numbers, as a slice over it. -/
theorem ints_row {w : World} {g : Nat} {k : IntKind} {zs : List Int} {T : TypeId} (h : w.heap[g]? = some (.cells (Row k zs) T (0, 0))) : Ints w k (some ⟨g, 0, none⟩) zs.length zs :=
  ⟨rfl, fun _ => ⟨g, 0, rfl, fun i hi => by rw [Nat.zero_add, cell_of_row w g i _ T (0, 0) h]; exact Row_get k zs i hi⟩⟩

theorem map_fst (q : Queue) (i : Nat) : (q.map (·.1)).getD i 0 = sq q i := by
  by_cases h : i < q.length
  · simp [sq, List.getD, h]
  · simp [sq, List.getD, h]
theorem map_snd (q : Queue) (i : Nat) : (q.map (·.2)).getD i 0 = pr q i := by
  by_cases h : i < q.length
  · simp [pr, List.getD, h]
  · simp [pr, List.getD, h]

/-! ### zzBuildQueue -/

theorem qCells_made (n : Nat) : madeCells (Value.agg (evCells 0 0).toArray).cells (n * 10) = (qCells (List.replicate n (0, 0))).toArray := by
  have hz : (Value.agg (evCells 0 0).toArray).cells = (evCells 0 0).toArray := rfl
  rw [hz]
  apply Array.ext'
  apply List.ext_getElem?
  intro i
  by_cases hi : i < n * 10
  · have h1 : i = (i / 10) * 10 + i % 10 := by omega
    have h2 := qCells_get (List.replicate n (0, 0)) (i / 10) (i % 10) (by simp; omega) (by omega)
    rw [← h1] at h2
    have h3 : sq (List.replicate n (0, 0)) (i / 10) = 0 ∧ pr (List.replicate n (0, 0)) (i / 10) = 0 := by
      constructor <;> simp [sq, pr, List.getD, List.getElem?_replicate] <;> split <;> rfl
    rw [h3.1, h3.2] at h2
    show _ = (qCells (List.replicate n (0, 0)))[i]?
    rw [h2]
    have h4 : i % 10 < 10 := by omega
    simp [madeCells, hi, evCells_length]
    rw [List.getElem?_eq_getElem (by rw [evCells_length]; exact h4)]
    rfl
  · rw [List.getElem?_eq_none (by simp [madeCells]; omega), List.getElem?_eq_none (by simp [qCells_length]; omega)]

theorem make_evs (n : Nat) (hn : n ≤ 5000) (w : World) : (Instr.makeSlice 31 (.int .i64 (n : Int)) (.int .i64 (n : Int))).run Try.prog w = .ok (.slice (some ⟨w.heap.size, 0, none⟩) n n) (w.alloc (.cells (qCells (List.replicate n (0, 0))).toArray 36)) := by
  obtain ⟨i, hi, hz0, hz1, hz2⟩ := info_parts Try.info36
  have := run_make (P := Try.prog) w 31 36 i _ Try.underlying31 hi hz0 .i64 .i64 n n (by omega) (Int.le_refl _) (by rw [hz2]; omega) (by omega)
  rw [hz1, Int.toNat_natCast, qCells_made] at this
  exact this

theorem qCells_setSeq : ∀ (q : Queue) (j : Nat) (s : Int), j < q.length → (qCells q).set (j * 10 + 1) (.int .u64 s) = qCells (q.set j (s, pr q j))
  | [], j, s, h => by simp at h
  | x :: r, 0, s, _ => by
    rw [qCells_cons, List.set_append_left _ _ (by rw [evCells_length]; omega), List.set_cons_zero, qCells_cons]
    rfl
  | x :: r, j + 1, s, h => by
    rw [qCells_cons, List.set_append_right _ _ (by rw [evCells_length]; omega), evCells_length, show (j + 1) * 10 + 1 - 10 = j * 10 + 1 by omega, qCells_setSeq r j s (by simpa using h), List.set_cons_succ, qCells_cons]
    rfl

/-- The queue of the sequences zs, the first m laid. -/
def fillQ (zs : List Int) (m : Nat) : Queue := (fill zs m).map fun z => (z, 0)

theorem fillQ_step (zs : List Int) (m : Nat) (h : m < zs.length) : (fillQ zs m).set m (zs.getD m 0, pr (fillQ zs m) m) = fillQ zs (m + 1) := by
  have hp : pr (fillQ zs m) m = 0 := by
    simp only [pr, fillQ, List.getD, List.getElem?_map]
    cases (fill zs m)[m]? <;> rfl
  rw [hp, fillQ, fillQ, ← fill_step zs m h, List.map_set]

set_option maxHeartbeats 1000000 in
theorem build9 (A : Option Addr) (n c : Nat) (zs : List Int) (w : World) (h : Ints w .u64 A n zs) (hn : n ≤ 4200) :
    Calls Try.prog 9 #[.slice A n c] w fun e w' => e = .returned (.slice (some ⟨w.heap.size, 0, none⟩) n n) ∧ w' = w.alloc (.cells (qCells (zs.map fun z => (z, 0))).toArray 36) := by
  obtain ⟨b, o, hA, hb, hc⟩ := h.parts
  have hzl := h.length
  have hmk := make_evs n (by omega)
  clear h
  go_enter Try.func9, Try.ntmps9
  go_wp2
  go_loopw [4] (fun i wr => ∃ k : Nat, k ≤ n ∧ i = .int .i64 k ∧ wr = w.alloc (.cells (qCells (fillQ zs k)).toArray 36)) (fun i _ => n - (intOf i).toNat)
  case atStart => exact ⟨0, Nat.zero_le _, rfl, by rw [fillQ, fill_zero, hzl, List.map_replicate]⟩
  case round =>
    obtain ⟨k, hk, rfl, rfl⟩ := hrel
    clear hmk
    by_cases hlt : k < n
    · obtain rfl := hA (by omega)
      have hcell := hc k hlt
      have hbl := hb (by omega)
      have hfl : (fillQ zs k).length = n := by rw [fillQ, List.length_map, fill_length _ _ (by omega), hzl]
      have hst : (qCells (fillQ zs k)).toArray.setIfInBounds (k * 10 + 1) (.int .u64 (zs.getD k 0)) = (qCells (fillQ zs (k + 1))).toArray := by
        rw [← fillQ_step zs k (by omega), ← qCells_setSeq _ _ _ (by omega)]
        simp
      obtain ⟨v, hv⟩ : ∃ v, (qCells (fillQ zs k)).toArray[k * 10 + 1]? = some v := ⟨_, Array.getElem?_eq_getElem (by simp [qCells_length, hfl]; omega)⟩
      generalize hQ : (qCells (fillQ zs k)).toArray = Q at *
      have HQ : Hid _ := hst
      generalize zs.getD k 0 = z at *
      clear hc hA hst hQ
      go_wp2
      go_roundw
      case rel => exact ⟨k + 1, by omega, by go_num, by rw [← HQ.out]⟩
      case measure => simp [intOf]; omega
    · go_wp2
      go_ret
      obtain rfl : k = n := by omega
      exact ⟨rfl, by rw [fillQ, ← hzl, fill_all]⟩

end Go.Proofs.Qxb6612944a
