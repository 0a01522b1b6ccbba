/- Walk of bpbOf at n = 1, no texts. -/
import Derived.Test.YthocgjaloflclaaA
import Derived.Test.YthocgjaloflclaaInst
import Derived.Deep.DrawnRows
namespace Go.Proofs.Ythocgjaloflclaa
open Go.RowKit
attribute [local go_sem ↓] Go.wp_at_zero Go.wp_at_succ

def of1 (l0 l1 l2 l3 l4 l5 l6 l7 l8 l9 l10 l11 l12 l13 l14 l15 : Int) : Array Value := #[.int .i64 (331), .int .i64 (512), .int .i64 (m8 l0), .int .i64 (m16 l1), .int .i64 (m8 l2), .int .i64 (m16 l3), .int .i64 (m16 l4), .int .i64 (m8 l5), .int .i64 (m16 l6), .int .i64 (m16 l7), .int .i64 (m16 l8), .int .i64 (wrap64 l9), .int .i64 (wrap64 l10), .int .i64 (0), .int .i64 (0), .int .i64 (0), .int .i64 (0), .string ⟨#[]⟩, .string ⟨#[]⟩]
set_option maxRecDepth 100000 in
set_option maxHeartbeats 4000000 in
theorem of1_any (l0 l1 l2 l3 l4 l5 l6 l7 l8 l9 l10 l11 l12 l13 l14 l15 : Int) (w : World) :
    Calls Try.prog 5 #[.int .u8 1, .agg #[.int .u32 l0, .int .u32 l1, .int .u32 l2, .int .u32 l3, .int .u32 l4, .int .u32 l5, .int .u32 l6, .int .u32 l7, .int .u32 l8, .int .u32 l9, .int .u32 l10, .int .u32 l11, .int .u32 l12, .int .u32 l13, .int .u32 l14, .int .u32 l15], .string ⟨#[]⟩, .string ⟨#[]⟩] w fun e w' => e = .returned (.agg (of1 l0 l1 l2 l3 l4 l5 l6 l7 l8 l9 l10 l11 l12 l13 l14 l15)) ∧ Below w.heap.size w w' := by
  go_enter Try.func5, Try.ntmps5
  go_wp2
  go_region_held3 (fun w' => blkD w' w.heap.size = #[.int .u32 l0, .int .u32 l1, .int .u32 l2, .int .u32 l3, .int .u32 l4, .int .u32 l5, .int .u32 l6, .int .u32 l7, .int .u32 l8, .int .u32 l9, .int .u32 l10, .int .u32 l11, .int .u32 l12, .int .u32 l13, .int .u32 l14, .int .u32 l15])
    (first | (with_reducible assumption) | (simp [go_sem]; done))
    (first | (go_at_call 8; refine (kind1_any _).mono ?_; rintro e w1 ⟨rfl, rfl⟩))
  all_goals go_wp2
  all_goals go_region_held3 (fun w' => blkD w' w.heap.size = #[.int .u32 l0, .int .u32 l1, .int .u32 l2, .int .u32 l3, .int .u32 l4, .int .u32 l5, .int .u32 l6, .int .u32 l7, .int .u32 l8, .int .u32 l9, .int .u32 l10, .int .u32 l11, .int .u32 l12, .int .u32 l13, .int .u32 l14, .int .u32 l15])
    (first | (with_reducible assumption) | (simp [go_sem]; done)) (fail)
  all_goals go_wp2_with (first | (go_at_call 9; refine (text_any _ _).mono ?_; rintro e w' ⟨rfl, rfl⟩))
  all_goals (refine bodyPost_ret (v := .agg (of1 l0 l1 l2 l3 l4 l5 l6 l7 l8 l9 l10 l11 l12 l13 l14 l15)) (results5_blk _ _ (w.heap.size + 1) _ (by rfl) (by simp [go_sem, of1]) rfl) rfl ⟨rfl, ?_⟩)
  all_goals (repeat (first | (with_reducible exact Below.refl _ _) | (with_reducible refine below_drewN ?_ _) | (with_reducible refine Below.drew ?_) | (with_reducible refine Below.alloc ?_ ?_ _)))
  all_goals (simp <;> omega)
end Go.Proofs.Ythocgjaloflclaa
