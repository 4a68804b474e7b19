import Derived.Test.Qxb6612907aSame
namespace Go.Proofs.Qxb6612907a
open Go.RowKit

set_option maxHeartbeats 400000 in
theorem yields (key : ByteArray) (KA PA VA : Option Addr) (kb ko kc m pb po pc vb vo vc : Nat) (off len file : Int) (zs : List Int) (w : World) (hk20 : key.size ≤ 1048576) (h20 : m ≤ 1048576)
    (hK : 0 < key.size → KA = some ⟨kb, ko, none⟩) (hkc : ∀ i, i < key.size → w.cell? ⟨kb, ko + i, none⟩ = some (.int .u8 ((strInts key).getD i 0)))
    (hP : 0 < m → PA = some ⟨pb, po, none⟩) (hpc : ∀ i, i < m → w.cell? ⟨pb, po + i, none⟩ = some (.int .u8 (zs.getD i 0)))
    (hV : 0 < m → VA = some ⟨vb, vo, none⟩) (hvc : ∀ i, i < m → w.cell? ⟨vb, vo + i, none⟩ = some (.int .u8 (zs.getD i 0)))
    (hN : VA.isNone = PA.isNone) :
    Calls Try.prog 10 #[.agg #[.string key, .slice PA m pc, .int .i64 off, .int .u32 len, .int .u32 file], .slice KA key.size kc, .agg #[.int .i64 off, .int .u32 len, .int .u32 file], .slice VA m vc] w
      fun e w' => e = .returned (.bool true) ∧ Below w.heap.size w w' := by
  have hnil : ∀ (w : World) (a : Option Addr) (n c n' c' : Nat), (binOp .eql 24 (.slice a n c) (.slice none n' c')).run Try.prog w = .ok (.bool a.isNone) w := fun w a n c n' c' => Lib.run_eql_slice_nil w _ _ a n c n' c' Try.underlying24
  go_enter Try.func10, Try.ntmps10
  go_wp2_with fail
  refine (sameText KA kb ko _ kc key _ rfl hk20 hK (fun i hi => cell_later (((Below.refl _ _).alloc (Nat.le_refl _) _).alloc (by simp) _) (hkc i hi))).mono ?_
  rintro e w' ⟨rfl, q, rfl⟩
  go_wp2_with fail
  refine (sameBytes VA PA vb vo pb po m vc pc zs _ h20 hV hP (fun i hi => cell_later (below_drewN (((Below.refl _ _).alloc (Nat.le_refl _) _).alloc (by simp) _) _) (hvc i hi)) (fun i hi => cell_later (below_drewN (((Below.refl _ _).alloc (Nat.le_refl _) _).alloc (by simp) _) _) (hpc i hi))).mono ?_
  rintro e w' ⟨rfl, q', rfl⟩
  go_wp2_with fail
  go_ret
  exact ⟨rfl, below_drewN (((Below.refl _ _).alloc (Nat.le_refl _) _).alloc (by simp) _) _⟩

end Go.Proofs.Qxb6612907a
