import Derived.Test.Qxb6612944aSorted
namespace Go.Proofs.Qxb6612944a
open Go.RowKit

theorem ins_fst (q : Queue) (k : Nat) (x : Int × Int) (hk : k ≤ q.length) (j : Nat) : ((ins q k x).map (·.1)).getD j 0 = if j < k then sq q j else if j = k then x.1 else sq q (j - 1) := by
  rw [map_fst, ins_sq q k x hk]
theorem ins_snd (q : Queue) (k : Nat) (x : Int × Int) (hk : k ≤ q.length) (j : Nat) : ((ins q k x).map (·.2)).getD j 0 = if j < k then pr q j else if j = k then x.2 else pr q (j - 1) := by
  rw [map_snd]
  unfold pr
  rw [ins_get q k x hk j]
  split
  · rfl
  · split <;> rfl

/-- One more number laid. -/
theorem Row_step (k : IntKind) (T : List Int) (m : Nat) (h : m < T.length) (v : Int) (hv : T.getD m 0 = v) : (Row k (fill T m)).setIfInBounds m (.int k v) = Row k (fill T (m + 1)) := by
  rw [Row_set, ← hv, fill_step T m h]

theorem Row_some (k : IntKind) (zs : List Int) (i : Nat) (h : i < zs.length) : ∃ v, (Row k zs)[i]? = some v := ⟨_, Row_get k zs i h⟩

/-- The two new rows, m of each laid. -/
def laid (w : World) (T1 T2 : List Int) (m : Nat) : World := (w.alloc (.cells (Row .u64 (fill T1 m)) 23)).alloc (.cells (Row .i64 (fill T2 m)) 3)

/-- What zzModelEnqueue leaves. -/
def Modelled (w : World) (r : Queue × Nat) (e : Ending) (w' : World) : Prop :=
  (∃ SA' PA' cs' cp', e = .returned (.tuple #[.slice SA' r.1.length cs', .slice PA' r.1.length cp', .int .i64 (r.2 : Nat)]) ∧
    Ints w' .u64 SA' r.1.length (r.1.map (·.1)) ∧ Ints w' .i64 PA' r.1.length (r.1.map (·.2))) ∧ Below w.heap.size w w'

theorem modelled_same {w : World} {q : Queue} {n u cs cp : Nat} {SA PA : Option Addr} (hq : q.length = n) (hS : Ints w .u64 SA n (q.map (·.1)) ∧ Ints w .i64 PA n (q.map (·.2))) :
    Modelled w (q, u) (.returned (.tuple #[.slice SA n cs, .slice PA n cp, .int .i64 u])) w := by
  subst hq
  exact ⟨⟨SA, PA, cs, cp, rfl, hS⟩, Below.refl _ _⟩

theorem modelled_laid {w : World} {q : Queue} {n P u' : Nat} {x : Int × Int} {r : Queue × Nat} {T1 T2 : List Int} (hq : q.length = n) (hP : P ≤ n) (hr : r = (ins q P x, u')) (hT : T1 = (ins q P x).map (·.1) ∧ T2 = (ins q P x).map (·.2)) :
    Modelled w r (.returned (.tuple #[.slice (some ⟨w.heap.size, 0, none⟩) (n + 1) (n + 1), .slice (some ⟨w.heap.size + 1, 0, none⟩) (n + 1) (n + 1), .int .i64 (u' : Nat)])) (laid w T1 T2 (n + 1)) := by
  obtain ⟨rfl, rfl⟩ := hT
  subst hr
  have hl := ins_length q P x (by omega)
  rw [hq] at hl
  have f1 : fill ((ins q P x).map (·.1)) (n + 1) = (ins q P x).map (·.1) := by
    have := fill_all ((ins q P x).map (·.1)); rw [List.length_map, hl] at this; exact this
  have f2 : fill ((ins q P x).map (·.2)) (n + 1) = (ins q P x).map (·.2) := by
    have := fill_all ((ins q P x).map (·.2)); rw [List.length_map, hl] at this; exact this
  unfold laid
  rw [f1, f2]
  refine ⟨⟨some ⟨w.heap.size, 0, none⟩, some ⟨w.heap.size + 1, 0, none⟩, n + 1, n + 1, by rw [hl], ?_, ?_⟩, ?_⟩
  · have h : ((w.alloc (.cells (Row .u64 ((ins q P x).map (·.1))) 23)).alloc (.cells (Row .i64 ((ins q P x).map (·.2))) 3)).heap[w.heap.size]? = some (.cells (Row .u64 ((ins q P x).map (·.1))) 23 (0, 0)) := by rw [heap_alloc_old _ _ (by go_simp), heap_alloc_new]
    have := ints_row h
    rwa [List.length_map] at this
  · have h : ((w.alloc (.cells (Row .u64 ((ins q P x).map (·.1))) 23)).alloc (.cells (Row .i64 ((ins q P x).map (·.2))) 3)).heap[w.heap.size + 1]? = some (.cells (Row .i64 ((ins q P x).map (·.2))) 3 (0, 0)) := by rw [show w.heap.size + 1 = (w.alloc (.cells (Row .u64 ((ins q P x).map (·.1))) 23)).heap.size by go_simp, heap_alloc_new]
    have := ints_row h
    rwa [List.length_map] at this
  · exact ((Below.refl w.heap.size w).alloc (Nat.le_refl _) _).alloc (by go_simp) _

set_option maxRecDepth 100000 in
set_option maxHeartbeats 2000000 in
/-- zzModelEnqueue. -/
theorem model7 (SA PA : Option Addr) (cs cp u n : Nat) (q : Queue) (sd s p : Int) (w : World) (hq : q.length = n) (hS : Ints w .u64 SA n (q.map (·.1))) (hP : Ints w .i64 PA n (q.map (·.2))) (hn : n ≤ 4200) (hu : u ≤ n) :
    Calls Try.prog 7 #[.slice SA n cs, .slice PA n cp, .int .i64 u, .int .u64 sd, .int .u64 s, .int .i64 p] w fun e w' => Modelled w (enq sd q u s p) e w' := by
  by_cases hs : s = sd
  · have henq : enq sd q u s p = (q, u) := enq_no (.inl hs)
    rw [henq]
    have HS := hS
    have HP := hP
    clear hS hP
    subst hs
    go_enter Try.func7, Try.ntmps7
    go_wp2
    refine bodyPost_ret (v := .tuple #[.slice SA n cs, .slice PA n cp, .int .i64 u]) (by simp [results, Try.results7, go_sem]) rfl (modelled_same hq ⟨HS, HP⟩)
  · obtain ⟨b, o, hSA, hb, hc⟩ := hS.parts
    obtain ⟨b2, o2, hPA, hb2, hd⟩ := hP.parts
    simp only [map_fst] at hc
    simp only [map_snd] at hd
    have HS : Hid _ := And.intro hS hP
    have hbs : (s == sd) = false := by simp [hs]
    clear hS hP
    go_enter Try.func7, Try.ntmps7
    go_wp2
    go_loopw [15] (fun i wr => ∃ k : Nat, k ≤ n ∧ i = .int .i64 k ∧ w = wr ∧ Hid (∀ j, j < k → sq q j ≠ s)) (fun i _ => n - (intOf i).toNat)
    case atStart => exact ⟨0, Nat.zero_le _, rfl, rfl, fun j hj => by omega⟩
    case round =>
      obtain ⟨k, hk, rfl, rfl, HI⟩ := hrel
      by_cases hlt : k < n
      · obtain rfl := hSA (by omega)
        have f1 := hc k hlt
        have i1 : (k : Int) < (n : Int) := by omega
        by_cases hx : sq q k = s
        · rw [hx] at f1
          have HE : Hid _ := enq_no (sd := sd) (u := u) (p := p) (.inr ⟨k, by omega, hx⟩)
          clear hc hd hx
          go_wp2
          refine bodyPost_ret (v := .tuple #[.slice (some ⟨b, o, none⟩) n cs, .slice PA n cp, .int .i64 u]) (by simp [results, Try.results7, go_sem]) rfl (HE.out ▸ modelled_same hq HS.out)
        · have HX : Hid _ := hx
          have hxb : (sq q k == s) = false := by simp [hx]
          obtain ⟨x, hxe⟩ : ∃ x, sq q k = x := ⟨_, rfl⟩
          rw [hxe] at f1 hxb
          clear hc hd hx hxe
          go_wp2
          go_roundw
          case rel =>
            refine ⟨k + 1, by omega, by go_num, trivial, fun j hj => ?_⟩
            by_cases hjk : j < k
            · exact HI.out j hjk
            · obtain rfl : j = k := by omega
              exact HX.out
          case measure => simp [intOf]; omega
      · obtain rfl : n = k := by omega
        have hno : ¬ Has q s := fun ⟨j, hj, hjs⟩ => HI.out j (by omega) hjs
        have hpos := posFrom_isPos s q
        generalize posFrom s q = P at *
        have HE : Hid _ := enq_yes (u := u) (p := p) hs hno hpos
        have hPn : P ≤ n := hq ▸ hpos.1
        obtain ⟨T1, hT1⟩ : ∃ T1, T1 = (ins q P (s, p)).map (·.1) := ⟨_, rfl⟩
        obtain ⟨T2, hT2⟩ : ∃ T2, T2 = (ins q P (s, p)).map (·.2) := ⟨_, rfl⟩
        have hl1 : T1.length = n + 1 := by rw [hT1, List.length_map, ins_length _ _ _ hpos.1, hq]
        have hl2 : T2.length = n + 1 := by rw [hT2, List.length_map, ins_length _ _ _ hpos.1, hq]
        have hg1 : ∀ j, T1.getD j 0 = if j < P then sq q j else if j = P then s else sq q (j - 1) := fun j => by rw [hT1, ins_fst _ _ _ hpos.1]
        have hg2 : ∀ j, T2.getD j 0 = if j < P then pr q j else if j = P then p else pr q (j - 1) := fun j => by rw [hT2, ins_snd _ _ _ hpos.1]
        have HG : Hid _ := And.intro hg1 hg2
        have HL : Hid _ := And.intro hl1 hl2
        have HC : Hid _ := And.intro hc hd
        have HT : Hid _ := And.intro hT1 hT2
        have HP : Hid _ := And.intro hpos HS
        have hm1 := make_u64 (n + 1) (by omega)
        have hm2 := make_i64 (n + 1) (by omega)
        rw [← hl1, ← fill_zero T1] at hm1
        rw [← hl2, ← fill_zero T2] at hm2
        rw [hl1] at hm1
        rw [hl2] at hm2
        rw [show ((n + 1 : Nat) : Int) = (n : Int) + 1 by omega] at hm1 hm2
        clear hc hd hno hpos hg1 hg2 HS HI hT1 hT2 hl1 hl2
        go_wp2
        go_loopw [16, 17] (fun v i wr => v = .int .i64 n ∧ ∃ k : Nat, k ≤ P ∧ i = .int .i64 k ∧ w = wr) (fun _ i _ => n - (intOf i).toNat)
        case atStart => exact ⟨rfl, 0, Nat.zero_le _, rfl, rfl⟩
        case round =>
          obtain ⟨rfl, k, hk, rfl, rfl⟩ := hrel
          by_cases hkP : k < P
          · obtain rfl := hSA (by omega)
            have f1 := HC.out.1 k (by omega)
            have i1 : (k : Int) < (n : Int) := by omega
            have hle := HP.out.1.2.1 k hkP
            generalize sq q k = x at *
            have hxb : decide (s < x) = false := by simp; omega
            clear hm1 hm2
            go_wp2
            go_roundw
            case rel => exact ⟨rfl, k + 1, by omega, by go_num, trivial⟩
            case measure => simp [intOf]; omega
          · obtain rfl : P = k := by omega
            have hlater := HP.out.1.2.2
            rcases Nat.lt_or_eq_of_le hPn with hPn' | hPn'
            · obtain rfl := hSA (by omega)
              have f1 := HC.out.1 P (by omega)
              have i1 : (P : Int) < (n : Int) := by omega
              have hle := hlater (by omega)
              obtain ⟨x, hx⟩ : ∃ x, sq q P = x := ⟨_, rfl⟩
              rw [hx] at hle f1
              have hxb : decide (s < x) = true := by simp; omega
              clear hx hlater
              go_wp2
              go_loopw [20] (fun i wr => ∃ k : Nat, k ≤ P ∧ i = .int .i64 k ∧ wr = laid w T1 T2 k) (fun i _ => P - (intOf i).toNat)
              case atStart => exact ⟨0, Nat.zero_le _, rfl, rfl⟩
              case round =>
                obtain ⟨k, hk, rfl, rfl⟩ := hrel
                by_cases hkP : k < P
                · cases hSA (by omega)
                  cases hPA (by omega)
                  have f1 := HC.out.1 k (by omega)
                  have f2 := HC.out.2 k (by omega)
                  have g1 := hb (by omega)
                  have g2 := hb2 (by omega)
                  have s1 := Row_step .u64 T1 k (by rw [HL.out.1]; omega) (sq q k) (by rw [HG.out.1, if_pos hkP])
                  have s2 := Row_step .i64 T2 k (by rw [HL.out.2]; omega) (pr q k) (by rw [HG.out.2, if_pos hkP])
                  obtain ⟨v1, hv1⟩ := Row_some .u64 (fill T1 k) k (by rw [fill_length _ _ (by rw [HL.out.1]; omega), HL.out.1]; omega)
                  obtain ⟨v2, hv2⟩ := Row_some .i64 (fill T2 k) k (by rw [fill_length _ _ (by rw [HL.out.2]; omega), HL.out.2]; omega)
                  generalize sq q k = x at *
                  generalize pr q k = y at *
                  unfold laid
                  generalize Row .u64 (fill T1 k) = R1 at *
                  generalize Row .i64 (fill T2 k) = R2 at *
                  have H1 : Hid _ := s1
                  have H2 : Hid _ := s2
                  clear s1 s2
                  go_wp2
                  go_roundw
                  case rel => exact ⟨k + 1, by omega, by go_num, by rw [← H1.out, ← H2.out]⟩
                  case measure => simp [intOf]; omega
                · obtain rfl : P = k := by omega
                  have s1 := Row_step .u64 T1 P (by rw [HL.out.1]; omega) s (by rw [HG.out.1, if_neg (by omega), if_pos rfl])
                  have s2 := Row_step .i64 T2 P (by rw [HL.out.2]; omega) p (by rw [HG.out.2, if_neg (by omega), if_pos rfl])
                  obtain ⟨v1, hv1⟩ := Row_some .u64 (fill T1 P) P (by rw [fill_length _ _ (by rw [HL.out.1]; omega), HL.out.1]; omega)
                  obtain ⟨v2, hv2⟩ := Row_some .i64 (fill T2 P) P (by rw [fill_length _ _ (by rw [HL.out.2]; omega), HL.out.2]; omega)
                  unfold laid
                  generalize hR1 : Row .u64 (fill T1 P) = R1 at *
                  generalize hR2 : Row .i64 (fill T2 P) = R2 at *
                  clear hR1 hR2
                  go_wp2
                  go_loopw [21] (fun i wr => ∃ k : Nat, P ≤ k ∧ k ≤ q.length ∧ i = .int .i64 k ∧ wr = laid w T1 T2 (k + 1)) (fun i _ => q.length - (intOf i).toNat)
                  case atStart => exact ⟨P, Nat.le_refl _, by omega, rfl, rfl⟩
                  case round =>
                    obtain ⟨k, hk1, hk2, rfl, rfl⟩ := hrel
                    clear s1 s2 hv1 hv2
                    by_cases hkn : k < q.length
                    · cases hSA (by omega)
                      cases hPA (by omega)
                      have f1 := HC.out.1 k (by omega)
                      have f2 := HC.out.2 k (by omega)
                      have g1 := hb (by omega)
                      have g2 := hb2 (by omega)
                      have s1 := Row_step .u64 T1 (k + 1) (by rw [HL.out.1]; omega) (sq q k) (by rw [HG.out.1, if_neg (by omega), if_neg (by omega), Nat.add_sub_cancel])
                      have s2 := Row_step .i64 T2 (k + 1) (by rw [HL.out.2]; omega) (pr q k) (by rw [HG.out.2, if_neg (by omega), if_neg (by omega), Nat.add_sub_cancel])
                      obtain ⟨v1, hv1⟩ := Row_some .u64 (fill T1 (k + 1)) (k + 1) (by rw [fill_length _ _ (by rw [HL.out.1]; omega), HL.out.1]; omega)
                      obtain ⟨v2, hv2⟩ := Row_some .i64 (fill T2 (k + 1)) (k + 1) (by rw [fill_length _ _ (by rw [HL.out.2]; omega), HL.out.2]; omega)
                      generalize sq q k = x at *
                      generalize pr q k = y at *
                      unfold laid
                      generalize Row .u64 (fill T1 (k + 1)) = R1 at *
                      generalize Row .i64 (fill T2 (k + 1)) = R2 at *
                      have H1 : Hid _ := s1
                      have H2 : Hid _ := s2
                      have i4 : ((k : Int) + 1).toNat = k + 1 := by omega
                      have hwk1 : IntKind.i64.wrap ((k : Int) + 1) = (k : Int) + 1 := by rw [IntKind.wrap_i64]; omega
                      clear s1 s2
                      go_wp2
                      go_roundw
                      case rel => exact ⟨k + 1, by omega, by omega, by go_num, by rw [← H1.out, ← H2.out]⟩
                      case measure => simp [intOf]; omega
                    · have hkn' : k = q.length := by omega
                      rw [hq] at hkn'
                      subst hkn'
                      by_cases hPu : P < u
                      · have hres := modelled_laid (w := w) (u' := u + 1) hq (by omega) (HE.out.trans (by rw [if_pos hPu])) HT.out
                        rw [show ((u + 1 : Nat) : Int) = (u : Int) + 1 by omega] at hres
                        go_wp2
                        refine bodyPost_ret (v := .tuple #[.slice (some ⟨w.heap.size, 0, none⟩) (k + 1) (k + 1), .slice (some ⟨w.heap.size + 1, 0, none⟩) (k + 1) (k + 1), .int .i64 ((u : Int) + 1)]) (by simp [results, Try.results7, go_sem]) rfl hres
                      · have hres := modelled_laid (w := w) (u' := u) hq (by omega) (HE.out.trans (by rw [if_neg hPu])) HT.out
                        go_wp2
                        refine bodyPost_ret (v := .tuple #[.slice (some ⟨w.heap.size, 0, none⟩) (k + 1) (k + 1), .slice (some ⟨w.heap.size + 1, 0, none⟩) (k + 1) (k + 1), .int .i64 (u : Int)]) (by simp [results, Try.results7, go_sem]) rfl hres
            · obtain rfl : P = n := by omega
              go_wp2
              go_loopw [20] (fun i wr => ∃ k : Nat, k ≤ P ∧ i = .int .i64 k ∧ wr = laid w T1 T2 k) (fun i _ => P - (intOf i).toNat)
              case atStart => exact ⟨0, Nat.zero_le _, rfl, rfl⟩
              case round =>
                obtain ⟨k, hk, rfl, rfl⟩ := hrel
                by_cases hkP : k < P
                · cases hSA (by omega)
                  cases hPA (by omega)
                  have f1 := HC.out.1 k (by omega)
                  have f2 := HC.out.2 k (by omega)
                  have g1 := hb (by omega)
                  have g2 := hb2 (by omega)
                  have s1 := Row_step .u64 T1 k (by rw [HL.out.1]; omega) (sq q k) (by rw [HG.out.1, if_pos hkP])
                  have s2 := Row_step .i64 T2 k (by rw [HL.out.2]; omega) (pr q k) (by rw [HG.out.2, if_pos hkP])
                  obtain ⟨v1, hv1⟩ := Row_some .u64 (fill T1 k) k (by rw [fill_length _ _ (by rw [HL.out.1]; omega), HL.out.1]; omega)
                  obtain ⟨v2, hv2⟩ := Row_some .i64 (fill T2 k) k (by rw [fill_length _ _ (by rw [HL.out.2]; omega), HL.out.2]; omega)
                  generalize sq q k = x at *
                  generalize pr q k = y at *
                  unfold laid
                  generalize Row .u64 (fill T1 k) = R1 at *
                  generalize Row .i64 (fill T2 k) = R2 at *
                  have H1 : Hid _ := s1
                  have H2 : Hid _ := s2
                  clear s1 s2
                  go_wp2
                  go_roundw
                  case rel => exact ⟨k + 1, by omega, by go_num, by rw [← H1.out, ← H2.out]⟩
                  case measure => simp [intOf]; omega
                · obtain rfl : P = k := by omega
                  have s1 := Row_step .u64 T1 P (by rw [HL.out.1]; omega) s (by rw [HG.out.1, if_neg (by omega), if_pos rfl])
                  have s2 := Row_step .i64 T2 P (by rw [HL.out.2]; omega) p (by rw [HG.out.2, if_neg (by omega), if_pos rfl])
                  obtain ⟨v1, hv1⟩ := Row_some .u64 (fill T1 P) P (by rw [fill_length _ _ (by rw [HL.out.1]; omega), HL.out.1]; omega)
                  obtain ⟨v2, hv2⟩ := Row_some .i64 (fill T2 P) P (by rw [fill_length _ _ (by rw [HL.out.2]; omega), HL.out.2]; omega)
                  unfold laid
                  generalize hR1 : Row .u64 (fill T1 P) = R1 at *
                  generalize hR2 : Row .i64 (fill T2 P) = R2 at *
                  clear hR1 hR2
                  go_wp2
                  go_loopw [21] (fun i wr => ∃ k : Nat, P ≤ k ∧ k ≤ q.length ∧ i = .int .i64 k ∧ wr = laid w T1 T2 (k + 1)) (fun i _ => q.length - (intOf i).toNat)
                  case atStart => exact ⟨P, Nat.le_refl _, by omega, rfl, rfl⟩
                  case round =>
                    obtain ⟨k, hk1, hk2, rfl, rfl⟩ := hrel
                    clear s1 s2 hv1 hv2
                    obtain rfl : P = k := by omega
                    have hres := modelled_laid (w := w) (u' := u) hq (by omega) (HE.out.trans (by rw [if_neg (by omega)])) HT.out
                    go_wp2
                    refine bodyPost_ret (v := .tuple #[.slice (some ⟨w.heap.size, 0, none⟩) (P + 1) (P + 1), .slice (some ⟨w.heap.size + 1, 0, none⟩) (P + 1) (P + 1), .int .i64 (u : Int)]) (by simp [results, Try.results7, go_sem]) rfl hres

end Go.Proofs.Qxb6612944a
