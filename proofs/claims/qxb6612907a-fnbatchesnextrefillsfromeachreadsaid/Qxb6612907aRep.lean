import Derived.Test.Qxb6612907aRound
namespace Go.Proofs.Qxb6612907a
open Go.RowKit

/-- The key that was yielded last, behind c calls over n pairs. -/
def repKey (D : Dat) (n : Nat) : Nat → ByteArray
  | 0 => ByteArray.empty
  | c + 1 => D.key (c % n)

/-- The Repeating batches' state behind c calls: r pairs are left of the batch. -/
def RepSt (W1 : World) (gb gp : Nat) (g n c : Nat) (key : ByteArray) (wr : World) : Prop :=
  ∃ r A KA kc, r < n ∧ (c + r) % n = 0 ∧ (0 < r → A = some ⟨g, (n - r) * 5, none⟩) ∧ BSt W1 gb (.func (.func 25) #[] #[.pointer (some ⟨gp, 0, none⟩)]) A r r false KA key.size kc (Lib.strCells key) wr

theorem RepSt.later {W1 : World} {gb gp g n c : Nat} {key : ByteArray} {w w' : World} (h : RepSt W1 gb gp g n c key w) (hb : Below w.heap.size w w') : RepSt W1 gb gp g n c key w' := by
  obtain ⟨r, A, KA, kc, h1, h2, h3, hs⟩ := h
  exact ⟨r, A, KA, kc, h1, h2, h3, hs.later hb⟩

theorem RepSt.below {W1 : World} {gb gp g n c : Nat} {key : ByteArray} {w : World} (h : RepSt W1 gb gp g n c key w) : Below gb W1 w := by
  obtain ⟨r, A, KA, kc, h1, h2, h3, hs⟩ := h
  exact hs.below

theorem mod_left (c r n : Nat) (hr : r < n) (h : (c + r) % n = 0) : (r = 0 → c % n = 0) ∧ (0 < r → c % n = n - r) := by
  have h1 : c % n < n := Nat.mod_lt _ (by omega)
  have h2 : (c % n + r) % n = 0 := by rw [← h, Nat.add_mod c r n, Nat.mod_eq_of_lt hr]
  refine ⟨fun h0 => ?_, fun h0 => ?_⟩
  · subst h0
    simpa using h
  · by_cases h3 : c % n + r < n
    · rw [Nat.mod_eq_of_lt h3] at h2; omega
    · rw [Nat.mod_eq_sub_mod (by omega), Nat.mod_eq_of_lt (by omega)] at h2; omega

/-- A call of next of the Repeating source over n pairs, n not 0. -/
theorem call_rep {W1 : World} {gb gp g n c : Nat} {key : ByteArray} {wr : World} {w : World} {D : Dat} (h : RepSt W1 gb gp g n c key wr) (hgb : gb = W1.heap.size) (hP : Pairs w g n n D W1) (hsm : Small D n)
    (hgp : W1.cell? ⟨gp, 0, none⟩ = some (.slice (some ⟨g, 0, none⟩) n n)) :
    Calls Try.prog 9 #[.pointer (some ⟨gb, 0, none⟩)] wr fun e w' => ∃ KA kc VA, e = .returned (.tuple #[.slice KA (D.key (c % n)).size kc, .agg #[.int .i64 (D.off (c % n)), .int .u32 (D.len (c % n)), .int .u32 (D.file (c % n))], .slice VA (D.vn (c % n)) (D.vn (c % n)), .bool true, .nilIface]) ∧
      RepSt W1 gb gp g n (c + 1) (D.key (c % n)) w' ∧ ∀ X PA pc, Below w'.heap.size w' X → PA = D.A (c % n) → Bytes X PA (D.vn (c % n)) pc (D.zs (c % n)) →
        Calls Try.prog 10 #[.agg #[.string (D.key (c % n)), .slice PA (D.vn (c % n)) pc, .int .i64 (D.off (c % n)), .int .u32 (D.len (c % n)), .int .u32 (D.file (c % n))], .slice KA (D.key (c % n)).size kc, .agg #[.int .i64 (D.off (c % n)), .int .u32 (D.len (c % n)), .int .u32 (D.file (c % n))], .slice VA (D.vn (c % n)) (D.vn (c % n))] X
          fun e w'' => e = .returned (.bool true) ∧ Below X.heap.size X w'' := by
  obtain ⟨r, A, KA, kc, hrn, hmod, hA, hs⟩ := h
  have hml := mod_left c r n hrn hmod
  have hk : c % n < n := Nat.mod_lt _ (by omega)
  obtain ⟨VA, hp, hc, hn⟩ := hP.done (c % n) hk
  have hg : g < gb := by obtain ⟨PC, h1, _⟩ := hP.blk; rw [hgb]; exact lt_of_heap h1
  have hgpb : gp < gb := by rw [hgb]; exact World.block_lt_of_cell? _ _ hgp
  have hsk := hsm (c % n) hk
  by_cases h0 : r = 0
  · subst h0
    have hc0 := hml.1 rfl
    obtain ⟨n', rfl⟩ : ∃ n', n = n' + 1 := ⟨n - 1, by omega⟩
    rw [hc0] at hp hc hn hsk ⊢
    refine (step_refill hs hgp hgpb (by simpa using hp) hg (Nat.le_refl _) hsk.1).mono ?_
    rintro e w' ⟨KA', kc', A', rfl, hA', hs'⟩
    refine ⟨KA', kc', VA, rfl, ⟨n', A', KA', kc', by omega, ?_, fun h => ?_, hs'⟩, fun X PA pc hX hPA hB => ?_⟩
    · rw [show c + 1 + n' = c + (n' + 1) from by omega, Nat.add_mod_right]
      exact hc0
    · rw [hA' h, show n' + 1 - n' = 1 from by omega]
    · subst hPA
      exact yields_at (hs'.later hX) hgb hsk.1 hsk.2 hB hc hn
  · have hc0 := hml.2 (by omega)
    obtain rfl := hA (by omega)
    obtain ⟨r', rfl⟩ : ∃ r', r = r' + 1 := ⟨r - 1, by omega⟩
    refine (step_some hs (by rw [← hc0]; exact hp) hg (Nat.le_refl _) hsk.1).mono ?_
    rintro e w' ⟨KA', kc', A', rfl, hA', hs'⟩
    refine ⟨KA', kc', VA, rfl, ⟨r', A', KA', kc', by omega, ?_, fun h => ?_, hs'⟩, fun X PA pc hX hPA hB => ?_⟩
    · rw [show c + 1 + r' = c + (r' + 1) from by omega]
      exact hmod
    · rw [hA' h, show (n - (r' + 1)) * 5 + 5 = (n - r') * 5 from by omega]
    · subst hPA
      exact yields_at (hs'.later hX) hgb hsk.1 hsk.2 hB hc hn

end Go.Proofs.Qxb6612907a
