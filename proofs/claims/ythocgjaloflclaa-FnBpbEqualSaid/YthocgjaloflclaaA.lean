/- Walks of bpbKind, bpbText, bpbOf. -/
import Derived.Test.YthocgjaloflclaaAid
namespace Go.Proofs.Ythocgjaloflclaa
open Go.RowKit

theorem kind1_any (w : World) : Calls Try.prog 8 #[.int .u8 1] w fun e w' => e = .returned (.int .i64 331) ∧ w' = w.alloc (.cells #[.int .i64 20, .int .i64 331, .int .i64 40] 3) := by
  go_enter Try.func8, Try.ntmps8
  go_wp2
  go_ret
  exact ⟨rfl, rfl⟩
theorem kind2_any (w : World) : Calls Try.prog 8 #[.int .u8 2] w fun e w' => e = .returned (.int .i64 40) ∧ w' = w.alloc (.cells #[.int .i64 20, .int .i64 331, .int .i64 40] 3) := by
  go_enter Try.func8, Try.ntmps8
  go_wp2
  go_ret
  exact ⟨rfl, rfl⟩
theorem text_any (n : Int) (w : World) : Calls Try.prog 9 #[.string ⟨#[]⟩, .int .i64 n] w fun e w' => e = .returned (.string ⟨#[]⟩) ∧ w = w' := by
  go_enter Try.func9, Try.ntmps9
  go_wp2
  refine wp_loop_rounds 1 ?_
  rw [rounds_succ]
  go_wp2
  go_ret
  exact ⟨rfl, rfl⟩

end Go.Proofs.Ythocgjaloflclaa
