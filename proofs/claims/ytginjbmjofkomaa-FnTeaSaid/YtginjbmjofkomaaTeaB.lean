/- Walk of spec.Tea. -/
import Derived.Test.YtginjbmjofkomaaTeaA
namespace Go.Proofs.Ytginjbmjofkomaa
open Go.RowKit

set_option maxHeartbeats 400000 in
theorem spec_tea_any (b0 b1 b2 b3 i0 i1 i2 i3 : Int) (w : World) :
    Calls Try.prog 9 #[.agg #[.int .u32 b0, .int .u32 b1, .int .u32 b2, .int .u32 b3], .agg #[.int .u32 i0, .int .u32 i1, .int .u32 i2, .int .u32 i3]] w
      fun e w' => e = .returned (.agg #[.int .u32 (out0 b0 b1 i0 i1 i2 i3), .int .u32 (out1 b0 b1 i0 i1 i2 i3), .int .u32 b2, .int .u32 b3]) ∧ Below w.heap.size w w' := by
  go_enter Try.func9, Try.ntmps9
  go_wp2
  go_quiet (fail)
  go_wp2
  go_loop [5, 6, 7, 12] (fun a b s n => ∃ k : Nat, k ≤ 16 ∧ n = .int .i64 k ∧ Rel i0 i1 i2 i3 b0 b1 k s a b) (fun _ _ _ n => 16 - (intOf n).toNat)
  case atStart => exact ⟨0, by omega, rfl, _, _, _, rfl, rfl, rfl, rfl⟩
  case round =>
    obtain ⟨k, hk, rfl, S, A, B, rfl, rfl, rfl, hN⟩ := hrel
    have HN := Lib.hid hN
    clear hN
    by_cases h : k < 16
    · go_wp2
      go_round
      case rel => exact ⟨k + 1, by omega, by go_num, Rel_next HN.out⟩
      case measure => simp [intOf]; omega
    · go_wp2
      obtain rfl : k = 16 := by omega
      rw [← out0_of HN.out, ← out1_of HN.out]
      refine bodyPost_ret (v := .agg #[.int .u32 ((b0 + A) % 4294967296), .int .u32 ((b1 + B) % 4294967296), .int .u32 b2, .int .u32 b3]) (by simp [results, Try.results9, go_sem]) rfl ⟨rfl, ?_⟩
      refine Below.setCell (Below.setCell (Below.setCell (Below.setCell (Below.setCell (Below.setCell (below_drewN (Below.alloc (Below.alloc (Below.alloc (Below.refl _ _) ?_ _) ?_ _) ?_ _) _) ?_ _) ?_ _) ?_ _) ?_ _) ?_ _) ?_ _
      all_goals (simp; try omega)
end Go.Proofs.Ytginjbmjofkomaa
