import Derived.Test.Qxb6612907aKind
namespace Go.Proofs.Qxb6612907a
open Go.RowKit

theorem cell_0of3 (w : World) (A B C : Array Value) (s t u : TypeId) (j : Nat) : (((w.alloc (.cells A s)).alloc (.cells B t)).alloc (.cells C u)).cell? ⟨w.heap.size, j, none⟩ = A[j]? := by
  rw [World.cell?_alloc_past _ _ _ (by simp; omega), World.cell?_alloc_past _ _ _ (by simp), World.cell?_alloc_at _ _ _ _ rfl]

theorem cell_2of3 (w : World) (A B C : Array Value) (s t u : TypeId) (j : Nat) : (((w.alloc (.cells A s)).alloc (.cells B t)).alloc (.cells C u)).cell? ⟨w.heap.size + 1 + 1, j, none⟩ = C[j]? := by
  rw [World.cell?_alloc_at _ _ _ _ (by simp)]

theorem kind_eq (zs : List Int) (n i : Nat) (v : Int) (hz : zs.length = n) (_hi : i + 13 < n) (j : Nat) (hj : j < n) :
    (((zs.set 12 2).set (13 + i) v).set 12 2).getD j 0 = if j = 12 then 2 else (zs.set (13 + i) v).getD j 0 := by
  simp only [List.getD_eq_getElem?_getD, List.getElem?_set, List.length_set]
  by_cases h1 : 12 = j
  · subst h1; simp [show 12 < zs.length by omega]
  · by_cases h2 : 13 + i = j
    · simp [h1, h2]
      omega
    · simp [h1, h2]
      omega

theorem setBlock_main (b o n c i : Nat) (v : Int) (zs : List Int) (w : World) (h20 : n ≤ 1048576) (h13 : 13 ≤ n) (hi : i + 13 < n) (hz : zs.length = n)
    (hc : ∀ i, i < n → w.cell? ⟨b, o + i, none⟩ = some (.int .u8 (zs.getD i 0))) (hb : b < w.heap.size) :
    Calls Try.prog 5 #[.slice (some ⟨b, o, none⟩) n c, .int .i64 i, .int .u8 v] w fun e w' => e = .returned (.bool true) ∧ Below w.heap.size w w' := by
  have hset := Row_set .u8
  have g0 := Row_get .u8 zs 12 (by omega)
  have g1 := Row_get .u8 (zs.set 12 2) (13 + i) (by simp; omega)
  have g2 := Row_get .u8 ((zs.set 12 2).set (13 + i) v) 12 (by simp; omega)
  have g3 := Row_get .u8 zs (13 + i) (by omega)
  have g4 : (Row .u8 (((zs.set 12 2).set (13 + i) v).set 12 2))[13 + i]? = some (.int .u8 v) := by
    rw [Row_get .u8 _ _ (by simp; omega), kind_eq zs n i v hz hi _ (by omega), if_neg (by omega)]
    simp [show 13 + i < zs.length by omega]
  go_enter Try.func5, Try.ntmps5
  go_wp2_with (first | (go_at_call 16; refine (clone_some b o n c zs _ h20 hz hc hb).mono ?_; rintro e w' ⟨rfl, rfl⟩) | go_in)
  go_region
  go_wp2
  go_end0
  go_wp2
  go_end0
  go_wp2_with (first | (go_at_call 20; go_in) | (go_at_call 19; go_in) | (go_at_call 18; go_in) | (go_at_call 26; go_in))
  go_region
  go_wp2
  go_end0
  go_wp2
  go_end0
  go_wp2_with (first | (go_at_call 20; go_in) | (go_at_call 19; go_in) | (go_at_call 18; go_in) | (go_at_call 26; go_in))
  refine (clone_some b o n c zs _ h20 hz (fun i hi => by simp (disch := (first | omega | (simp <;> omega))) only [World.cell?_drew, World.cell?_alloc_past]; exact hc i hi) (by simp; omega)).mono ?_
  rintro e w' ⟨rfl, rfl⟩
  go_wp2_with fail
  refine (isKind_true _ _ _ _ n _ _ (((zs.set 12 2).set (13 + i) v).set 12 2) (zs.set (13 + i) v) _ h20 (by simp [hz]) (by simp [hz]) (fun j hj => ?_) (fun j hj => ?_) (kind_eq zs n i v hz hi)).mono ?_
  · simp only [World.cell?_drew]; rw [Nat.zero_add, cell_0of3]; exact Row_get _ _ _ (by simp; omega)
  · simp only [World.cell?_drew]; rw [Nat.zero_add, cell_2of3]; exact Row_get _ _ _ (by simp; omega)
  rintro e w' ⟨rfl, rfl⟩
  go_wp2_with fail
  refine (isKind_true _ _ _ _ n _ _ (((zs.set 12 2).set (13 + i) v).set 12 2) (zs.set (13 + i) v) _ h20 (by simp [hz]) (by simp [hz]) (fun j hj => ?_) (fun j hj => ?_) (kind_eq zs n i v hz hi)).mono ?_
  · simp only [World.cell?_drew]; rw [Nat.zero_add, cell_0of3]; exact Row_get _ _ _ (by simp; omega)
  · simp only [World.cell?_drew]; rw [Nat.zero_add, cell_2of3]; exact Row_get _ _ _ (by simp; omega)
  rintro e w' ⟨rfl, rfl⟩
  go_wp2_with fail
  go_ret
  refine ⟨rfl, ?_⟩
  exact (((((Below.refl _ _).alloc (Nat.le_refl _) _).alloc (by simp) _).alloc (by simp; omega) _).drew).drew

end Go.Proofs.Qxb6612907a
