import Derived.Test.Qxb6612907aBound
import Derived.ProofKit
import Derived.OpenShut
import Derived.Deep.Slices
namespace Go.Proofs.Qxb6612907a
open Go.RowKit Go.ChangeShapes Go.WideShapes Go.ChangeAt

theorem Try.cells27 : Try.prog.cellsOf 27 = 5 := by kernel_rfl
theorem Try.cells9 : Try.prog.cellsOf 9 = 1 := by kernel_rfl
theorem Try.cells24 : Try.prog.cellsOf 24 = 1 := by kernel_rfl
theorem Try.cells2 : Try.prog.cellsOf 2 = 1 := by kernel_rfl
theorem Try.cells25 : Try.prog.cellsOf 25 = 1 := by kernel_rfl
theorem Try.cells5 : Try.prog.cellsOf 5 = 1 := by kernel_rfl

section
variable {H : Type} {enc : TypeId × Value → H} {W : World} {spare : Nat → Bool} {held : Bool}

/-- A slice of bytes, read. -/
theorem open_bytes {fuel : Nat} {cs : List Value} {x : DataW H × List MemPlace} (hf : DataW.trod enc Try.prog W 0 spare held fuel 24 cs = some x) (hsp : ∀ b, spare b = true) :
    ∃ A n c zs, cs = [.slice A n c] ∧ Bytes W A n c zs := by
  rcases open_ints Try.underlying24 Try.underlying5 Try.cells5 hf with ⟨hcs, _⟩ | ⟨a, l, c, zs, hcs, _, hl, hm, hz, _, hcell, hwz⟩
  · exact ⟨none, 0, 0, [], hcs, rfl, fun _ => ⟨rfl, rfl⟩, fun h => by omega⟩
  · rw [hsp, if_pos rfl] at hz
    refine ⟨some a, l, c, zs.take l, hcs, by simp; omega, (by intro h; cases h), fun h => ?_⟩
    obtain ⟨b, off, spot⟩ := a
    have hspot : spot = none := by simpa [Addr.add] using World.cell?_spot (hcell 0 (by omega))
    subst hspot
    have hc : ∀ i, i < l → W.cell? ⟨b, off + i, none⟩ = some (.int .u8 ((zs.take l).getD i 0)) := fun i hi => by
      rw [← add_plain, hcell i (by omega)]
      simp [hi]
    exact ⟨b, off, rfl, World.block_lt_of_cell? _ _ (hc 0 h), hc⟩

/-- One pair, read. -/
theorem open_pair {fuel : Nat} {cs : List Value} {x : DataW H × List MemPlace} (hf : DataW.trod enc Try.prog W 0 spare held fuel 27 cs = some x) (hsp : ∀ b, spare b = true) :
    ∃ key A n c zs off len file, cs = [.string key, .slice A n c, .int .i64 off, .int .u32 len, .int .u32 file] ∧ Bytes W A n c zs := by
  obtain ⟨xs, m, _, rfl, hl, hlen, hf⟩ := DataW.trod_struct Try.underlying27 hf
  rw [Try.cells27] at hl
  obtain ⟨c0, c1, c2, c3, c4, rfl⟩ : ∃ a b c d e, cs = [a, b, c, d, e] := by
    match cs, hl with
    | [a, b, c, d, e], _ => exact ⟨a, b, c, d, e, rfl⟩
  obtain ⟨x0, x1, x2, x3, x4, rfl⟩ : ∃ a b c d e, xs = [a, b, c, d, e] := by
    match xs, hlen with
    | [a, b, c, d, e], _ => exact ⟨a, b, c, d, e, rfl⟩
  have f0 : DataW.trod enc Try.prog W 0 spare held m 9 [c0] = some x0 := by simpa [Try.cells9] using hf 0 _ rfl
  have f1 : DataW.trod enc Try.prog W 0 spare held m 24 [c1] = some x1 := by simpa [Try.cells24] using hf 1 _ rfl
  have f2 : DataW.trod enc Try.prog W 0 spare held m 2 [c2] = some x2 := by simpa [Try.cells2] using hf 2 _ rfl
  have f3 : DataW.trod enc Try.prog W 0 spare held m 25 [c3] = some x3 := by simpa [Try.cells25] using hf 3 _ rfl
  have f4 : DataW.trod enc Try.prog W 0 spare held m 25 [c4] = some x4 := by simpa [Try.cells25] using hf 4 _ rfl
  obtain ⟨key, e0, _, _⟩ := DataW.trod_string Try.underlying9 f0
  obtain ⟨A, n, c, zs, e1, hB⟩ := open_bytes f1 hsp
  obtain ⟨off, e2, _, _⟩ := DataW.trod_int Try.underlying2 f2
  obtain ⟨len, e3, _, _⟩ := DataW.trod_int Try.underlying25 f3
  obtain ⟨file, e4, _, _⟩ := DataW.trod_int Try.underlying25 f4
  simp only [List.cons.injEq, and_true] at e0 e1 e2 e3 e4
  exact ⟨key, A, n, c, zs, off, len, file, by rw [e0, e1, e2, e3, e4], hB⟩

/-- The argument: a slice of pairs. -/
theorem open_arg {fuel : Nat} {a0 : Option Addr} {len cap : Nat} {x : DataW H × List MemPlace} (hf : DataW.trod enc Try.prog W 0 spare held fuel 22 [.slice a0 len cap] = some x) (hsp : ∀ b, spare b = true) :
    ∃ (b o : Nat) (D : Dat), (0 < len → a0 = some ⟨b, o, none⟩) ∧ len ≤ maxLen ∧ (∀ k, k < len → PairAt W b (o + k * 5) (D.key k) (D.A k) (D.vn k) (D.vc k) (D.off k) (D.len k) (D.file k)) ∧ ∀ k, k < len → Bytes W (D.A k) (D.vn k) (D.vc k) (D.zs k) := by
  rcases Deep.open_slice Try.underlying22 hf with ⟨hcs, _⟩ | ⟨a, l, c, m, n, D, Pl, hcs, _, hl, hm, hmm, _, hx⟩
  · simp only [List.cons.injEq, Value.slice.injEq, and_true] at hcs
    obtain ⟨rfl, rfl, rfl⟩ := hcs
    exact ⟨0, 0, ⟨fun _ => ByteArray.empty, fun _ => none, fun _ => 0, fun _ => 0, fun _ => [], fun _ => 0, fun _ => 0, fun _ => 0⟩, fun h => by omega, Nat.zero_le _, fun k hk => by omega, fun k hk => by omega⟩
  · simp only [List.cons.injEq, Value.slice.injEq, and_true] at hcs
    obtain ⟨rfl, rfl, rfl⟩ := hcs
    rw [hsp, if_pos rfl] at hmm
    subst hmm
    by_cases h0 : len = 0
    · subst h0
      exact ⟨0, 0, ⟨fun _ => ByteArray.empty, fun _ => none, fun _ => 0, fun _ => 0, fun _ => [], fun _ => 0, fun _ => 0, fun _ => 0⟩, fun h => by omega, Nat.zero_le _, fun k hk => by omega, fun k hk => by omega⟩
    obtain ⟨F, hF⟩ := Deep.choose_lt (α := ByteArray × Option Addr × Nat × Nat × List Int × Int × Int × Int) (n := len) (p := fun i t => W.cells? 0 (a.add (i * 5)) 5 = some [.string t.1, .slice t.2.1 t.2.2.1 t.2.2.2.1, .int .i64 t.2.2.2.2.2.1, .int .u32 t.2.2.2.2.2.2.1, .int .u32 t.2.2.2.2.2.2.2] ∧ Bytes W t.2.1 t.2.2.1 t.2.2.2.1 t.2.2.2.2.1) (fun i hi => by
      obtain ⟨cs', h1, h2⟩ := hx i (by omega)
      rw [Try.cells27] at h1
      obtain ⟨key, A, n, c, zs, off, len, file, rfl, hB⟩ := open_pair h2 hsp
      exact ⟨(key, A, n, c, zs, off, len, file), h1, hB⟩)
    obtain ⟨b, off, spot⟩ := a
    have hspot : spot = none := by
      have h1 := (World.cells?_some (hF 0 (by omega)).1).2.2 0 (by omega)
      simpa [Addr.add] using World.cell?_spot h1
    subst hspot
    refine ⟨b, off, ⟨fun k => (F k).1, fun k => (F k).2.1, fun k => (F k).2.2.1, fun k => (F k).2.2.2.1, fun k => (F k).2.2.2.2.1, fun k => (F k).2.2.2.2.2.1, fun k => (F k).2.2.2.2.2.2.1, fun k => (F k).2.2.2.2.2.2.2⟩, fun _ => rfl, by omega, fun k hk => ?_, fun k hk => (hF k hk).2⟩
    have hc := (World.cells?_some (hF k hk).1).2.2
    rw [add_plain] at hc
    have g0 := hc 0 (by omega)
    have g1 := hc 1 (by omega)
    have g2 := hc 2 (by omega)
    have g3 := hc 3 (by omega)
    have g4 := hc 4 (by omega)
    rw [add_plain] at g0 g1 g2 g3 g4
    exact ⟨g0, g1, g2, g3, g4⟩
end

end Go.Proofs.Qxb6612907a
