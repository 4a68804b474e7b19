import Derived.Test.Qxb6612907aBound
namespace Go.Proofs.Qxb6612907a
open Go.RowKit

theorem strCells_get (s : ByteArray) (i : Nat) (h : i < s.size) : (Lib.strCells s)[i]? = some (.int .u8 ((strInts s).getD i 0)) := by
  have h' : i < s.data.size := h
  simp only [Lib.strCells, strInts, List.getD, List.getElem?_map, Array.getElem?_toList]
  rw [Array.getElem?_eq_getElem h']
  rfl

/-- The key's cells. -/
theorem key_cells {w : World} {B : Nat} {KA : Option Addr} {kc : Nat} {key : ByteArray} (hown : w.ownsRow B 5 1 (.slice KA key.size kc) key.size (Lib.strCells key)) :
    ∃ kb, (0 < key.size → KA = some ⟨kb, 0, none⟩) ∧ ∀ i, i < key.size → w.cell? ⟨kb, 0 + i, none⟩ = some (.int .u8 ((strInts key).getD i 0)) := by
  rcases key_shape hown with ⟨rfl, h0, _⟩ | ⟨_, gk, rfl, _, _⟩
  · exact ⟨0, fun h => by omega, fun i hi => by omega⟩
  · exact ⟨gk, fun _ => rfl, fun i hi => by rw [Nat.zero_add, hown.cellAt i (by omega)]; exact strCells_get key i hi⟩

theorem Bytes.parts {w : World} {A : Option Addr} {n c : Nat} {zs : List Int} (h : Bytes w A n c zs) : ∃ b o, (0 < n → A = some ⟨b, o, none⟩) ∧ ∀ i, i < n → w.cell? ⟨b, o + i, none⟩ = some (.int .u8 (zs.getD i 0)) := by
  by_cases h0 : 0 < n
  · obtain ⟨b, o, hA, _, hc⟩ := h.cells h0
    exact ⟨b, o, fun _ => hA, hc⟩
  · exact ⟨0, 0, fun h => absurd h h0, fun i hi => by omega⟩

theorem Copy.parts {W : World} {g : Nat} {A : Option Addr} {n : Nat} {zs : List Int} (h : Copy W g A n zs) : ∃ b, (0 < n → A = some ⟨b, 0, none⟩) ∧ ∀ i, i < n → W.cell? ⟨b, 0 + i, none⟩ = some (.int .u8 (zs.getD i 0)) := by
  by_cases h0 : 0 < n
  · obtain ⟨gk, hA, _, hh⟩ := h.2 h0
    exact ⟨gk, fun _ => hA, fun i hi => by rw [Nat.zero_add, cell_of_row W gk i _ 5 (0, 0) hh]; exact Row_get .u8 zs i (by rw [h.1]; exact hi)⟩
  · exact ⟨0, fun h => absurd h h0, fun i hi => by omega⟩

/-- zzYields at a pair that next has just yielded. -/
theorem yields_at {W1 : World} {gb : Nat} {fn : Value} {A : Option Addr} {r rc : Nat} {done : Bool} {KA : Option Addr} {kc : Nat} {key : ByteArray} {X : World} (h : BSt W1 gb fn A r rc done KA key.size kc (Lib.strCells key) X) (hgb : gb = W1.heap.size)
    {PA VA : Option Addr} {m pc g : Nat} {zs : List Int} {off len file : Int} (hk20 : key.size ≤ 1048576) (hm20 : m ≤ 1048576) (hP : Bytes X PA m pc zs) (hV : Copy W1 g VA m zs) (hN : VA.isNone = PA.isNone) :
    Calls Try.prog 10 #[.agg #[.string key, .slice PA m pc, .int .i64 off, .int .u32 len, .int .u32 file], .slice KA key.size kc, .agg #[.int .i64 off, .int .u32 len, .int .u32 file], .slice VA m m] X
      fun e w' => e = .returned (.bool true) ∧ Below X.heap.size X w' := by
  obtain ⟨kb, hK, hkc⟩ := key_cells h.own
  obtain ⟨pb, po, hPA, hpc⟩ := hP.parts
  obtain ⟨vb, hVA, hvc⟩ := hV.parts
  refine yields key KA PA VA kb 0 kc m pb po pc vb 0 m off len file zs X hk20 hm20 hK hkc hPA hpc hVA (fun i hi => ?_) hN
  have hc := hvc i hi
  rw [h.below.cell (by rw [hgb]; exact World.block_lt_of_cell? _ _ hc)]
  exact hc

set_option maxHeartbeats 400000 in
theorem new7 (A : Option Addr) (n c : Nat) (w : World) : Calls Try.prog 7 #[.slice A n c] w fun e w' => e = .returned (.pointer (some ⟨w.heap.size, 0, none⟩)) ∧ w' = w.alloc (.cells #[.func (.func 22) #[] #[], .slice A n c, .bool false, .slice none 0 0] 52) := by
  go_enter Try.func7, Try.ntmps7
  go_wp2
  go_ret
  exact ⟨rfl, rfl⟩

set_option maxHeartbeats 400000 in
theorem new14 (A : Option Addr) (n c : Nat) (w : World) : Calls Try.prog 14 #[.slice A n c] w fun e w' => e = .returned (.pointer (some ⟨w.heap.size + 1, 0, none⟩)) ∧
    w' = (w.alloc (.cells #[.slice A n c] 30)).alloc (.cells #[.func (.func 25) #[] #[.pointer (some ⟨w.heap.size, 0, none⟩)], .slice none 0 0, .bool false, .slice none 0 0] 52) := by
  go_enter Try.func14, Try.ntmps14
  go_wp2
  go_ret
  exact ⟨rfl, rfl⟩

/-- The key that was yielded last. -/
def lastKey (D : Dat) : Nat → ByteArray
  | 0 => ByteArray.empty
  | k + 1 => D.key k

/-- The batches' state behind k calls, pairs left: g, the pairs' block. -/
def Left (W1 : World) (gb : Nat) (fn : Value) (g n k : Nat) (key : ByteArray) (wr : World) : Prop :=
  ∃ A KA kc, (k < n → A = some ⟨g, k * 5, none⟩) ∧ BSt W1 gb fn A (n - k) (n - k) false KA key.size kc (Lib.strCells key) wr

theorem Left.later {W1 : World} {gb : Nat} {fn : Value} {g n k : Nat} {key : ByteArray} {w w' : World} (h : Left W1 gb fn g n k key w) (hb : Below w.heap.size w w') : Left W1 gb fn g n k key w' := by
  obtain ⟨A, KA, kc, hA, hs⟩ := h
  exact ⟨A, KA, kc, hA, hs.later hb⟩

theorem Left.below {W1 : World} {gb : Nat} {fn : Value} {g n k : Nat} {key : ByteArray} {w : World} (h : Left W1 gb fn g n k key w) : Below gb W1 w := by
  obtain ⟨A, KA, kc, hA, hs⟩ := h
  exact hs.below

set_option maxHeartbeats 400000 in
/-- ZZbatchesKey. -/
theorem key12 {W1 : World} {gb : Nat} {fn : Value} {A : Option Addr} {r rc : Nat} {done : Bool} {KA : Option Addr} {kn kc : Nat} {xs : List Value} {w : World} (h : BSt W1 gb fn A r rc done KA kn kc xs w) :
    Calls Try.prog 12 #[.pointer (some ⟨gb, 0, none⟩)] w fun e w' => e = .returned (.slice KA kn kc) ∧ w' = w := by
  have c3 : w.cell? ⟨gb, 3, none⟩ = some (.slice KA kn kc) := by rw [cell_of_row w gb 3 _ 52 (0, 0) h.blk]; rfl
  clear h
  go_enter Try.func12, Try.ntmps12
  go_wp2
  go_ret
  exact ⟨rfl, rfl⟩

theorem keyText {W1 : World} {gb : Nat} {fn : Value} {A : Option Addr} {r rc : Nat} {done : Bool} {KA : Option Addr} {kc : Nat} {key : ByteArray} {w : World} (h : BSt W1 gb fn A r rc done KA key.size kc (Lib.strCells key) w) (h20 : key.size ≤ 1048576) :
    Calls Try.prog 11 #[.slice KA key.size kc, .string key] w fun e w' => e = .returned (.bool true) ∧ ∃ q, w' = w.drewN q := by
  obtain ⟨kb, hK, hkc⟩ := key_cells h.own
  exact sameText KA kb 0 key.size kc key w rfl h20 hK hkc

/-- A call of next where a pair is left: it yields that pair; zzYields says so, in every later world. -/
theorem call_left {W1 : World} {gb : Nat} {fn : Value} {g n k : Nat} {key : ByteArray} {wr : World} {w : World} {D : Dat} (h : Left W1 gb fn g n k key wr) (hk : k < n) (hgb : gb = W1.heap.size) (hP : Pairs w g n n D W1) (hsm : Small D n) :
    Calls Try.prog 9 #[.pointer (some ⟨gb, 0, none⟩)] wr fun e w' => ∃ KA kc VA, e = .returned (.tuple #[.slice KA (D.key k).size kc, .agg #[.int .i64 (D.off k), .int .u32 (D.len k), .int .u32 (D.file k)], .slice VA (D.vn k) (D.vn k), .bool true, .nilIface]) ∧
      Left W1 gb fn g n (k + 1) (D.key k) w' ∧ ∀ X PA pc, Below w'.heap.size w' X → PA = D.A k → Bytes X PA (D.vn k) pc (D.zs k) →
        Calls Try.prog 10 #[.agg #[.string (D.key k), .slice PA (D.vn k) pc, .int .i64 (D.off k), .int .u32 (D.len k), .int .u32 (D.file k)], .slice KA (D.key k).size kc, .agg #[.int .i64 (D.off k), .int .u32 (D.len k), .int .u32 (D.file k)], .slice VA (D.vn k) (D.vn k)] X
          fun e w'' => e = .returned (.bool true) ∧ Below X.heap.size X w'' := by
  obtain ⟨A, KA, kc, hA, hs⟩ := h
  obtain rfl := hA hk
  obtain ⟨r, hr⟩ : ∃ r, n - k = r + 1 := ⟨n - k - 1, by omega⟩
  rw [hr] at hs
  obtain ⟨VA, hp, hc, hn⟩ := hP.done k hk
  have hg : g < gb := by obtain ⟨PC, h1, _⟩ := hP.blk; rw [hgb]; exact lt_of_heap h1
  have hsk := hsm k hk
  refine (step_some hs hp hg (Nat.le_refl _) hsk.1).mono ?_
  rintro e w' ⟨KA', kc', A', rfl, hA', hs'⟩
  refine ⟨KA', kc', VA, rfl, ⟨A', KA', kc', fun h => ?_, ?_⟩, fun X PA pc hX hPA hB => ?_⟩
  · rw [hA' (by omega), show k * 5 + 5 = (k + 1) * 5 from by omega]
  · rw [show n - (k + 1) = r from by omega]
    exact hs'
  · subst hPA
    exact yields_at (hs'.later hX) hgb hsk.1 hsk.2 hB hc hn

end Go.Proofs.Qxb6612907a
