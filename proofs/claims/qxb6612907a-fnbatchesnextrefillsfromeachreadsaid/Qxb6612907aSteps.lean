import Derived.Test.Qxb6612907aBNext
namespace Go.Proofs.Qxb6612907a
open Go.RowKit

/-- What the calls of next keep true: the batches' block gb; its key's row, of the call's own; all below gb as in W1. -/
structure BSt (W1 : World) (gb : Nat) (fn : Value) (A : Option Addr) (r rc : Nat) (done : Bool) (KA : Option Addr) (kn kc : Nat) (xs : List Value) (wr : World) : Prop where
  blk : wr.heap[gb]? = some (.cells #[fn, .slice A r rc, .bool done, .slice KA kn kc] 52 (0, 0))
  own : wr.ownsRow (gb + 1) 5 1 (.slice KA kn kc) kn xs
  below : Below gb W1 wr

theorem BSt.later {W1 : World} {gb : Nat} {fn : Value} {A : Option Addr} {r rc : Nat} {done : Bool} {KA : Option Addr} {kn kc : Nat} {xs : List Value} {w w' : World} (h : BSt W1 gb fn A r rc done KA kn kc xs w) (hb : Below w.heap.size w w') :
    BSt W1 gb fn A r rc done KA kn kc xs w' := by
  have hgb := lt_of_heap h.blk
  refine ⟨by rw [hb.block gb hgb]; exact h.blk, ⟨h.own.1, ?_⟩, h.below.trans (hb.mono (Nat.le_of_lt hgb))⟩
  rcases h.own.2 with h2 | ⟨g, cap, cur, hv, hg, hh, r⟩
  · exact .inl h2
  · exact .inr ⟨g, cap, cur, hv, hg, by rw [hb.block g (lt_of_heap hh)]; exact hh, r⟩

theorem row_of_key {w : World} {B : Nat} {KA : Option Addr} {km kc : Nat} {xs : List Value} (hown : w.ownsRow B 5 1 (.slice KA km kc) km xs) (k : Nat) (h : Value.ownBlock (.slice KA 0 kc) = some k) : B ≤ k ∧ k < w.heap.size := by
  rcases key_shape hown with ⟨rfl, _⟩ | ⟨_, gk, rfl, h1, h2⟩
  · simp [Value.ownBlock] at h
  · simp [Value.ownBlock] at h
    subst h
    exact ⟨h1, h2⟩

/-- From next's end to ZZbatchesNext's. -/
theorem BSt.behind {W1 : World} {gb : Nat} {fn : Value} {A A' : Option Addr} {r rc r' rc' : Nat} {done done' : Bool} {KA KA' : Option Addr} {kn kc kn' kc' : Nat} {xs xs' : List Value} {w w1 : World} {row : Option Nat}
    (h : BSt W1 gb fn A r rc done KA kn kc xs w) (hrow : ∀ k, row = some k → gb + 1 ≤ k ∧ k < w.heap.size)
    (hb : w1.heap[gb]? = some (.cells #[fn, .slice A' r' rc', .bool done', .slice KA' kn' kc'] 52 (0, 0))) (ho : w1.ownsRow (gb + 1) 5 1 (.slice KA' kn' kc') kn' xs') (hk : Kept gb row (w.alloc (.cells #[.int .i64 0, .int .u32 0, .int .u32 0] 34)) w1)
    (k v : Value) (off len file : Int) : BSt W1 gb fn A' r' rc' done' KA' kn' kc' xs' (Qxb6612907a.behind w1 w.heap.size k v off len file) := by
  have hgb := lt_of_heap h.blk
  have hR : w1.heap[w.heap.size]? = some (.cells #[.int .i64 0, .int .u32 0, .int .u32 0] 34 (0, 0)) := by
    rw [hk.block _ (by simp) (Nat.ne_of_gt hgb) (fun e => by have := (hrow _ e.symm).2; omega)]
    exact heap_alloc1 _ _
  have F0 : NextFin w row gb w.heap.size 34 (.cells #[fn, .slice A' r' rc', .bool done', .slice KA' kn' kc'] 52 (0, 0)) (.slice KA' kn' kc') kn' xs' w1 := ⟨hb, ⟨_, hR⟩, ho, ((Kept.refl _ _ _).alloc _).trans hk⟩
  have F := ((((F0.store (by decide) (Nat.ne_of_lt hgb) (Nat.le_refl _) 0 (.int .i64 off)).store (by decide) (Nat.ne_of_lt hgb) (Nat.le_refl _) 1 (.int .u32 len)).store (by decide) (Nat.ne_of_lt hgb) (Nat.le_refl _) 2 (.int .u32 file)).alloc (.cells #[k, .int .i64 off, .int .u32 len, .int .u32 file, v] 56)).drew
  exact ⟨F.blk, F.own, h.below.trans (F.kept.below (Nat.le_of_lt hgb) (fun k hk => by have := (hrow k hk).1; omega))⟩

theorem heap_R {w w1 : World} {gb : Nat} {row : Option Nat} (hgb : gb < w.heap.size) (hrow : ∀ k, row = some k → gb + 1 ≤ k ∧ k < w.heap.size) (hk : Kept gb row (w.alloc (.cells #[.int .i64 0, .int .u32 0, .int .u32 0] 34)) w1) :
    w1.heap[w.heap.size]? = some (.cells #[.int .i64 0, .int .u32 0, .int .u32 0] 34 (0, 0)) := by
  rw [hk.block _ (by simp) (Nat.ne_of_gt hgb) (fun e => by have := (hrow _ e.symm).2; omega)]
  exact heap_alloc1 _ _

/-- Five cells of a pair in block g from o on. -/
structure PairAt (w : World) (g o : Nat) (key : ByteArray) (VA : Option Addr) (vn vc : Nat) (off len file : Int) : Prop where
  c0 : w.cell? ⟨g, o, none⟩ = some (.string key)
  c1 : w.cell? ⟨g, o + 1, none⟩ = some (.slice VA vn vc)
  c2 : w.cell? ⟨g, o + 1 + 1, none⟩ = some (.int .i64 off)
  c3 : w.cell? ⟨g, o + 1 + 1 + 1, none⟩ = some (.int .u32 len)
  c4 : w.cell? ⟨g, o + 1 + 1 + 1 + 1, none⟩ = some (.int .u32 file)

theorem PairAt.later {w w' : World} {B g o : Nat} {key : ByteArray} {VA : Option Addr} {vn vc : Nat} {off len file : Int} (h : PairAt w g o key VA vn vc off len file) (hb : Below B w w') (hg : g < B) : PairAt w' g o key VA vn vc off len file :=
  ⟨by rw [hb.cell hg]; exact h.c0, by rw [hb.cell hg]; exact h.c1, by rw [hb.cell hg]; exact h.c2, by rw [hb.cell hg]; exact h.c3, by rw [hb.cell hg]; exact h.c4⟩

section
variable {W1 : World} {gb : Nat} {fn : Value} {A : Option Addr} {r rc c : Nat} {done : Bool} {KA : Option Addr} {kn kc : Nat} {xs : List Value} {w : World} {key : ByteArray} {VA : Option Addr} {vn vc : Nat} {off len file : Int} {g o : Nat}

/-- ZZbatchesNext where a pair is left. -/
theorem step_some (h : BSt W1 gb fn (some ⟨g, o, none⟩) (r + 1) (rc + 1) done KA kn kc xs w) (hp : PairAt W1 g o key VA vn vc off len file) (hg : g < gb) (hr : r ≤ rc) (hkey : key.size ≤ 1048576) :
    Calls Try.prog 9 #[.pointer (some ⟨gb, 0, none⟩)] w fun e w' => ∃ KA' kc' A', e = .returned (.tuple #[.slice KA' key.size kc', .agg #[.int .i64 off, .int .u32 len, .int .u32 file], .slice VA vn vc, .bool true, .nilIface]) ∧
      (0 < r → A' = some ⟨g, o + 5, none⟩) ∧ BSt W1 gb fn A' r rc done KA' key.size kc' (Lib.strCells key) w' := by
  have hgb := lt_of_heap h.blk
  have hal := (Below.refl w.heap.size w).alloc (Nat.le_refl _) (.cells #[.int .i64 0, .int .u32 0, .int .u32 0] 34)
  have h' := h.later hal
  have hp' := hp.later h'.below hg
  have hrow := row_of_key h.own
  refine (bnext gb w true key.size vn vc VA off len file _ (next_some gb g o r rc kn kc KA fn done key VA vn vc off len file xs _ h'.blk hr hg hp'.c0 hp'.c1 hp'.c2 hp'.c3 hp'.c4 h'.own hkey) ?_).mono ?_
  · rintro KA' kc' A' w' ⟨_, _, _, hk⟩
    exact heap_R hgb hrow hk
  · rintro e w' ⟨KA', kc', A', w1, ⟨hA, hb, ho, hk⟩, rfl, rfl⟩
    exact ⟨KA', kc', A', rfl, hA, h.behind hrow hb ho hk _ _ _ _ _⟩

/-- .. where the Repeating source refills. -/
theorem step_refill {gp : Nat} (h : BSt W1 gb (.func (.func 25) #[] #[.pointer (some ⟨gp, 0, none⟩)]) A 0 c false KA kn kc xs w) (hgp : W1.cell? ⟨gp, 0, none⟩ = some (.slice (some ⟨g, o, none⟩) (r + 1) (rc + 1))) (hgpb : gp < gb)
    (hp : PairAt W1 g o key VA vn vc off len file) (hg : g < gb) (hr : r ≤ rc) (hkey : key.size ≤ 1048576) :
    Calls Try.prog 9 #[.pointer (some ⟨gb, 0, none⟩)] w fun e w' => ∃ KA' kc' A', e = .returned (.tuple #[.slice KA' key.size kc', .agg #[.int .i64 off, .int .u32 len, .int .u32 file], .slice VA vn vc, .bool true, .nilIface]) ∧
      (0 < r → A' = some ⟨g, o + 5, none⟩) ∧ BSt W1 gb (.func (.func 25) #[] #[.pointer (some ⟨gp, 0, none⟩)]) A' r rc false KA' key.size kc' (Lib.strCells key) w' := by
  have hgb := lt_of_heap h.blk
  have hal := (Below.refl w.heap.size w).alloc (Nat.le_refl _) (.cells #[.int .i64 0, .int .u32 0, .int .u32 0] 34)
  have h' := h.later hal
  have hp' := hp.later h'.below hg
  have hrow := row_of_key h.own
  refine (bnext gb w true key.size vn vc VA off len file _ (next_refill gb gp g o r rc c kn kc A KA key VA vn vc off len file xs _ h'.blk (by rw [h'.below.cell hgpb]; exact hgp) hr hg hp'.c0 hp'.c1 hp'.c2 hp'.c3 hp'.c4 h'.own hkey) ?_).mono ?_
  · rintro KA' kc' A' w' ⟨_, _, _, hk⟩
    exact heap_R hgb hrow hk
  · rintro e w' ⟨KA', kc', A', w1, ⟨hA, hb, ho, hk⟩, rfl, rfl⟩
    exact ⟨KA', kc', A', rfl, hA, h.behind hrow hb ho hk _ _ _ _ _⟩

theorem own_kept {B : Nat} {v : Value} {n : Nat} {w1 : World} (h : w.ownsRow B 5 1 v n xs) (hk : Kept gb none w w1) (hB : gb < B) : w1.ownsRow B 5 1 v n xs := by
  refine ⟨h.1, ?_⟩
  rcases h.2 with h2 | ⟨g, cap, cur, hv, hg, hh, r⟩
  · exact .inl h2
  · exact .inr ⟨g, cap, cur, hv, hg, by rw [hk.block g (lt_of_heap hh) (by omega) (by simp)]; exact hh, r⟩

/-- .. where the source has ended. -/
theorem step_done (h : BSt W1 gb fn A 0 c true KA kn kc xs w) :
    Calls Try.prog 9 #[.pointer (some ⟨gb, 0, none⟩)] w fun e w' => e = .returned (.tuple #[.slice none 0 0, .agg #[.int .i64 0, .int .u32 0, .int .u32 0], .slice none 0 0, .bool false, .nilIface]) ∧ BSt W1 gb fn A 0 c true KA kn kc xs w' := by
  have hgb := lt_of_heap h.blk
  have hal := (Below.refl w.heap.size w).alloc (Nat.le_refl _) (.cells #[.int .i64 0, .int .u32 0, .int .u32 0] 34)
  have h' := h.later hal
  refine (bnext gb w false 0 0 0 none 0 0 0 (fun KA' kc' _ w1 => KA' = none ∧ kc' = 0 ∧ w1.heap[gb]? = some (.cells #[fn, .slice A 0 c, .bool true, .slice KA kn kc] 52 (0, 0)) ∧ Below (w.alloc (.cells #[.int .i64 0, .int .u32 0, .int .u32 0] 34)).heap.size (w.alloc (.cells #[.int .i64 0, .int .u32 0, .int .u32 0] 34)) w1)
    ((next_done gb c A fn _ _ h'.blk).mono fun e w1 hw => ⟨none, 0, none, hw.1, rfl, rfl, hw.2.1, hw.2.2⟩) ?_).mono ?_
  · rintro KA' kc' A' w1 ⟨_, _, _, hb⟩
    rw [hb.block _ (by simp)]
    exact heap_alloc1 _ _
  · rintro e w' ⟨KA', kc', A', w1, ⟨rfl, rfl, hb, hbel⟩, rfl, rfl⟩
    have hl := h'.later hbel
    refine ⟨rfl, h.behind (row := none) (by simp) hb hl.own ⟨hbel.os, hbel.tape, hbel.output, hbel.size, fun k hk _ _ => hbel.block k hk⟩ _ _ _ _ _⟩

/-- .. the Last source's end. -/
theorem step_last (h : BSt W1 gb (.func (.func 22) #[] #[]) A 0 c false KA kn kc xs w) :
    Calls Try.prog 9 #[.pointer (some ⟨gb, 0, none⟩)] w fun e w' => e = .returned (.tuple #[.slice none 0 0, .agg #[.int .i64 0, .int .u32 0, .int .u32 0], .slice none 0 0, .bool false, .nilIface]) ∧ BSt W1 gb (.func (.func 22) #[] #[]) none 0 0 true KA kn kc xs w' := by
  have hgb := lt_of_heap h.blk
  have hal := (Below.refl w.heap.size w).alloc (Nat.le_refl _) (.cells #[.int .i64 0, .int .u32 0, .int .u32 0] 34)
  have h' := h.later hal
  refine (bnext gb w false 0 0 0 none 0 0 0 (fun KA' kc' _ w1 => KA' = none ∧ kc' = 0 ∧ w1.heap[gb]? = some (.cells #[.func (.func 22) #[] #[], .slice none 0 0, .bool true, .slice KA kn kc] 52 (0, 0)) ∧ Kept gb none (w.alloc (.cells #[.int .i64 0, .int .u32 0, .int .u32 0] 34)) w1)
    ((next_last gb c A _ _ h'.blk).mono fun e w1 hw => ⟨none, 0, none, hw.1, rfl, rfl, hw.2.1, hw.2.2⟩) ?_).mono ?_
  · rintro KA' kc' A' w1 ⟨_, _, _, hk⟩
    exact heap_R hgb (by simp) hk
  · rintro e w' ⟨KA', kc', A', w1, ⟨rfl, rfl, hb, hk⟩, rfl, rfl⟩
    exact ⟨rfl, h.behind (row := none) (by simp) hb (own_kept h'.own hk (Nat.lt_succ_self _)) hk _ _ _ _ _⟩

/-- .. the Repeating source over an empty list. -/
theorem step_refill_empty {gp n' : Nat} {A' : Option Addr} (h : BSt W1 gb (.func (.func 25) #[] #[.pointer (some ⟨gp, 0, none⟩)]) A 0 c false KA kn kc xs w) (hgp : W1.cell? ⟨gp, 0, none⟩ = some (.slice A' 0 n')) (hgpb : gp < gb) :
    Calls Try.prog 9 #[.pointer (some ⟨gb, 0, none⟩)] w fun e w' => e = .returned (.tuple #[.slice none 0 0, .agg #[.int .i64 0, .int .u32 0, .int .u32 0], .slice none 0 0, .bool false, .nilIface]) ∧
      BSt W1 gb (.func (.func 25) #[] #[.pointer (some ⟨gp, 0, none⟩)]) A' 0 n' true KA kn kc xs w' := by
  have hgb := lt_of_heap h.blk
  have hal := (Below.refl w.heap.size w).alloc (Nat.le_refl _) (.cells #[.int .i64 0, .int .u32 0, .int .u32 0] 34)
  have h' := h.later hal
  refine (bnext gb w false 0 0 0 none 0 0 0 (fun KA' kc' _ w1 => KA' = none ∧ kc' = 0 ∧ w1.heap[gb]? = some (.cells #[.func (.func 25) #[] #[.pointer (some ⟨gp, 0, none⟩)], .slice A' 0 n', .bool true, .slice KA kn kc] 52 (0, 0)) ∧ Kept gb none (w.alloc (.cells #[.int .i64 0, .int .u32 0, .int .u32 0] 34)) w1)
    ((next_refill_empty gb gp c n' A A' _ _ h'.blk (by rw [h'.below.cell hgpb]; exact hgp)).mono fun e w1 hw => ⟨none, 0, none, hw.1, rfl, rfl, hw.2.1, hw.2.2⟩) ?_).mono ?_
  · rintro KA' kc' A' w1 ⟨_, _, _, hk⟩
    exact heap_R hgb (by simp) hk
  · rintro e w' ⟨KA', kc', A', w1, ⟨rfl, rfl, hb, hk⟩, rfl, rfl⟩
    exact ⟨rfl, h.behind (row := none) (by simp) hb (own_kept h'.own hk (Nat.lt_succ_self _)) hk _ _ _ _ _⟩
end

end Go.Proofs.Qxb6612907a
