import Derived.Test.Qxb6613114aLaw
import Derived.Deep.DeepAppendRoom
import Derived.Lib.AppendZerosOnto
namespace Go.Proofs.Qxb6613114a
open Go.RowKit

/-- The cells of a block that holds the bytes zs. -/
def Row (zs : List Int) : Array Value := (zs.map (Value.int .u8)).toArray

theorem Row_made (n : Nat) : madeCells (Value.int .u8 0).cells (n * 1) = Row (List.replicate n 0) := by
  apply Array.ext'
  rw [show (Value.int .u8 0).cells = #[.int .u8 0] from rfl, toList_madeCells_one]
  simp [Row]

theorem Row_get (zs : List Int) (i : Nat) (h : i < zs.length) : (Row zs)[i]? = some (.int .u8 (zs.getD i 0)) := by
  simp [Row, h]

theorem bytes_row {w : World} {g m : Nat} {zs r : List Int} {T : TypeId} (h : w.heap[g]? = some (.cells (Row (zs ++ r)) T (0, 0))) (hm : zs.length = m) : Bytes w (some ⟨g, 0, none⟩) m zs :=
  ⟨hm, fun _ => ⟨g, 0, rfl, fun i hi => by
    rw [Nat.zero_add, cell_of_row w g i _ T (0, 0) h, Row_get _ _ (by simp; omega)]
    simp [List.getD, List.getElem?_append_left (show i < zs.length by omega)]⟩⟩

theorem Try.info5 : (Try.prog.info? 5).map (fun i => (i.zero, i.size, i.bytes)) = some (some (.int .u8 0), 1, 1) := by kernel_rfl

theorem make_bytes (l n : Nat) (hl : l ≤ n) (hn : n ≤ 1048576) (w : World) : (Instr.makeSlice 22 (.int .i64 (l : Int)) (.int .i64 (n : Int))).run Try.prog w =
    .ok (.slice (some ⟨w.heap.size, 0, none⟩) l n) (w.alloc (.cells (Row (List.replicate n 0)) 5)) := by
  obtain ⟨i, hi, hz0, hz1, hz2⟩ := info_parts Try.info5
  have := run_make (P := Try.prog) w 22 5 i (.int .u8 0) Try.underlying22 hi hz0 .i64 .i64 l n (by omega) (by omega) (by rw [hz2]; omega) (by omega)
  rw [hz1, Int.toNat_natCast, Int.toNat_natCast, Row_made] at this
  exact this

/-- append(out, x...) where there is room. -/
theorem append_bytes {w : World} {B g l m c cap : Nat} {A : Option Addr} {zs xs : List Int} (hown : w.ownsRow B 5 1 (.slice (some ⟨g, 0, none⟩) l cap) l (zs.map (Value.int .u8))) (hx : Bytes w A m xs) (hc : A = none → c = 0) (hm : l + m ≤ cap) (ty : TypeId) :
    ∃ w', (Builtin.append_ #[22, 22] ty #[.slice (some ⟨g, 0, none⟩) l cap, .slice A m c]).run Try.prog w = .ok (.slice (some ⟨g, 0, none⟩) (l + m) cap) w' ∧ w'.ownsRow B 5 1 (.slice (some ⟨g, 0, none⟩) (l + m) cap) (l + m) ((zs ++ xs).map (Value.int .u8)) ∧ w.grownBy w' (some g) := by
  obtain ⟨i, hi, hz0, hz1, hz2⟩ := info_parts Try.info5
  have hxl := hx.length
  rw [List.map_append]
  cases A with
  | none =>
    obtain rfl := hx.nil
    have hxs : xs = [] := List.eq_nil_of_length_eq_zero hxl
    subst hxs
    obtain rfl := hc rfl
    refine ⟨w, ?_, ?_, ⟨rfl, rfl, rfl, by simp, fun k _ _ => rfl⟩⟩
    · simp [Builtin.append_, run_underlying Try.underlying22, sizeOf, typeInfo, hi, Builtin.lenOf, Builtin.firstCells, storeCells]
      omega
    · simpa using hown
  | some a =>
    exact run_append_own_spare (P := Try.prog) w B 22 ty 5 i 1 Try.underlying22 hi hz1 g l cap _ hown a m c (xs.map (Value.int .u8)) (by simp [hxl]) (fun j u hu => by
      rw [List.getElem?_map] at hu
      obtain ⟨x, hx1, rfl⟩ := Option.map_eq_some_iff.1 hu
      exact hx.addr j x hx1) (fun u hu => by
      obtain ⟨x, _, rfl⟩ := List.mem_map.1 hu
      rfl) hm

theorem bytes_own {w : World} {B g n cap : Nat} {zs : List Int} (h : w.ownsRow B 5 1 (.slice (some ⟨g, 0, none⟩) n cap) n (zs.map (Value.int .u8))) : Bytes w (some ⟨g, 0, none⟩) n zs := by
  have hl : zs.length = n := by have := h.1; simpa using this
  refine ⟨hl, fun _ => ⟨g, 0, rfl, fun i hi => ?_⟩⟩
  rw [Nat.zero_add, h.cellAt i (by omega)]
  simp [show i < zs.length by omega]

theorem Bytes.grown {v w w' : World} {A : Option Addr} {n g : Nat} {zs : List Int} (h : Bytes w A n zs) (hg : w.grownBy w' (some g)) (h0 : Bytes v A n zs) (hv : v.heap.size ≤ g) : Bytes w' A n zs :=
  ⟨h.length, fun hp => by
    obtain ⟨b, o, e, hc⟩ := h.cells hp
    obtain ⟨b0, o0, e0, hc0⟩ := h0.cells hp
    rw [e] at e0
    cases e0
    refine ⟨b, o, e, fun i hi => hg.cell (hc i hi) (fun e' => ?_)⟩
    have hbg : b = g := by simpa using e'
    have : b < v.heap.size := World.block_lt_of_cell? _ _ (hc0 i hi)
    omega⟩

set_option maxHeartbeats 1000000 in
theorem join5 {w : World} {A A' : Option Addr} {n c m c' : Nat} {zs xs : List Int} (h : Bytes w A n zs) (h' : Bytes w A' m xs) (hc : A = none → c = 0) (hc' : A' = none → c' = 0) (hn : n ≤ 65536) (hm : m ≤ 65536) :
    Calls Try.prog 5 #[.slice A n c, .slice A' m c'] w fun e w' => e = .returned (.slice (some ⟨w.heap.size, 0, none⟩) (n + m) (n + m)) ∧ Bytes w' (some ⟨w.heap.size, 0, none⟩) (n + m) (zs ++ xs) ∧ Below w.heap.size w w' := by
  have hmk : (Instr.makeSlice 22 (.int .i64 0) (.int .i64 ((n + m : Nat) : Int))).run Try.prog w = .ok (.slice (some ⟨w.heap.size, 0, none⟩) 0 (n + m)) (w.alloc (.cells (Row (List.replicate (n + m) 0)) 5)) := make_bytes 0 (n + m) (Nat.zero_le _) (by omega) w
  have hb1 : Below w.heap.size w (w.alloc (.cells (Row (List.replicate (n + m) 0)) 5)) := (Below.refl _ _).alloc (Nat.le_refl _) _
  have hown : (w.alloc (.cells (Row (List.replicate (n + m) 0)) 5)).ownsRow w.heap.size 5 1 (.slice (some ⟨w.heap.size, 0, none⟩) 0 (n + m)) 0 (([] : List Int).map (Value.int .u8)) :=
    World.ownsRow_made w _ (n + m) (Nat.le_refl _) (by unfold maxLen; omega) (by simp [Row])
  obtain ⟨w2, hr2, ho2, hg2⟩ := append_bytes (c := c) hown (h.later hb1) hc (by omega) 22
  have hx2 : Bytes w2 A' m xs := (h'.later hb1).grown hg2 h' (Nat.le_refl _)
  rw [Nat.zero_add] at hr2 ho2
  obtain ⟨w3, hr3, ho3, hg3⟩ := append_bytes (c := c') ho2 hx2 hc' (Nat.le_refl _) 22
  have hb2 : Below w.heap.size w w2 := hb1.grown hg2 (by simp) (fun k hk => by cases hk; exact Nat.le_refl _)
  have hb3 : Below w.heap.size w w3 := hb2.grown hg3 hb2.size (fun k hk => by cases hk; exact Nat.le_refl _)
  have HF : Hid _ := And.intro (bytes_own ho3) hb3
  have hcast : ((n : Int) + (m : Int)) = ((n + m : Nat) : Int) := by omega
  clear ho2 ho3 hg2 hg3 hb1 hb2 hb3 hx2 hown h h' hc hc'
  generalize n + m = k at *
  go_enter Try.func5, Try.ntmps5
  have H2 : Hid _ := hr2
  have H3 : Hid _ := hr3
  clear hr2 hr3
  go_wp2_with (first | (at_builtin; refine Lib.wpList_append_run _ rfl _ _ _ _ rfl _ _ rfl rfl _ _ H2.out ?_) | (at_builtin; refine Lib.wpList_append_run _ rfl _ _ _ _ rfl _ _ rfl rfl _ _ H3.out ?_))
  go_ret
  exact ⟨rfl, HF.out⟩

end Go.Proofs.Qxb6613114a
