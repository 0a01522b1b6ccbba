/- Walks of impl.HalfMd4 and of the law FnHalfMd4. -/
import Derived.Test.YtginjbmjofkomaaMdD
import Derived.Deep.RegionHeld3
namespace Go.Proofs.Ytginjbmjofkomaa
open Go.RowKit

set_option maxHeartbeats 1000000 in
theorem impl_md4_any (b0 b1 b2 b3 i0 i1 i2 i3 i4 i5 i6 i7 : Int) (w : World) :
    Calls Try.prog 10 #[.agg #[.int .u32 b0, .int .u32 b1, .int .u32 b2, .int .u32 b3], .agg #[.int .u32 i0, .int .u32 i1, .int .u32 i2, .int .u32 i3, .int .u32 i4, .int .u32 i5, .int .u32 i6, .int .u32 i7]] w
      fun e w' => e = .returned (.int .u32 (mdOut b0 b1 b2 b3 i0 i1 i2 i3 i4 i5 i6 i7)) ∧ Below w.heap.size w w' := by
  go_enter Try.func10, Try.ntmps10
  go_wp2
  go_region_held3 (fun w' => w'.cell? ⟨w.heap.size, 0, none⟩ = some (.int .u32 b0) ∧ w'.cell? ⟨w.heap.size, 1, none⟩ = some (.int .u32 b1) ∧ w'.cell? ⟨w.heap.size, 2, none⟩ = some (.int .u32 b2) ∧ w'.cell? ⟨w.heap.size, 3, none⟩ = some (.int .u32 b3))
    (refine ⟨?_, ?_, ?_, ?_⟩ <;> first | (rw [hb.cell (by simp <;> omega)]; simp [go_sem]; done) | (simp [go_sem]; done))
    (first | (go_at_call 14; refine (md4_any b0 b1 b2 b3 i0 i1 i2 i3 i4 i5 i6 i7 _ _ ?_ ?_ ?_ ?_ ?_ ?_ ?_ ?_ ?_).mono ?_; (simp); (simp [go_sem]); (simp [go_sem]); (simp [go_sem]); (simp [go_sem]); (simp [go_sem]); (simp [go_sem]); (simp [go_sem]); (simp [go_sem]); rintro e w1 ⟨rfl, hb⟩))
  go_wp2
  go_ret
  refine ⟨rfl, Below.trans (Below.drew (Below.alloc (Below.alloc (Below.refl _ _) ?_ _) ?_ _)) (hb.mono ?_)⟩
  all_goals (first | omega | (simp <;> omega))

/-- the fixed call is not 0 -/
theorem md_fixed : (mdOut 1 2 3 4 0 0 0 0 0 0 0 0 != 0) = true := by kernel_rfl

set_option maxHeartbeats 1000000 in
theorem law_md4_any (b0 b1 b2 b3 i0 i1 i2 i3 i4 i5 i6 i7 : Int) (w : World) :
    Calls Try.prog 5 #[.agg #[.int .u32 b0, .int .u32 b1, .int .u32 b2, .int .u32 b3], .agg #[.int .u32 i0, .int .u32 i1, .int .u32 i2, .int .u32 i3, .int .u32 i4, .int .u32 i5, .int .u32 i6, .int .u32 i7]] w
      fun e w' => e = .returned (.bool true) ∧ Below w.heap.size w w' := by
  go_enter Try.func5, Try.ntmps5
  go_wp2
  go_region_held3 (fun w' => w'.cell? ⟨w.heap.size, 0, none⟩ = some (.int .u32 b0) ∧ w'.cell? ⟨w.heap.size, 1, none⟩ = some (.int .u32 b1) ∧ w'.cell? ⟨w.heap.size, 2, none⟩ = some (.int .u32 b2) ∧ w'.cell? ⟨w.heap.size, 3, none⟩ = some (.int .u32 b3)
      ∧ w'.cell? ⟨w.heap.size + 1, 0, none⟩ = some (.int .u32 i0) ∧ w'.cell? ⟨w.heap.size + 1, 1, none⟩ = some (.int .u32 i1) ∧ w'.cell? ⟨w.heap.size + 1, 2, none⟩ = some (.int .u32 i2) ∧ w'.cell? ⟨w.heap.size + 1, 3, none⟩ = some (.int .u32 i3)
      ∧ w'.cell? ⟨w.heap.size + 1, 4, none⟩ = some (.int .u32 i4) ∧ w'.cell? ⟨w.heap.size + 1, 5, none⟩ = some (.int .u32 i5) ∧ w'.cell? ⟨w.heap.size + 1, 6, none⟩ = some (.int .u32 i6) ∧ w'.cell? ⟨w.heap.size + 1, 7, none⟩ = some (.int .u32 i7))
    (refine ⟨?_, ?_, ?_, ?_, ?_, ?_, ?_, ?_, ?_, ?_, ?_, ?_⟩ <;> first | (rw [hbc.cell (by simp <;> omega)]; simp [*]; done) | (rw [hbb.cell (by simp <;> omega)]; simp [*]; done) | (rw [hba.cell (by simp <;> omega)]; simp [go_sem]; done) | (simp [go_sem]; done))
    (first | (go_at_call 10; first | (refine (impl_md4_any b0 b1 b2 b3 i0 i1 i2 i3 i4 i5 i6 i7 _).mono ?_; rintro e w1 ⟨rfl, hba⟩; have hz := hba.size; try simp only [World.size_alloc, World.size_drew] at hz) | (refine (impl_md4_any 1 2 3 4 0 0 0 0 0 0 0 0 _).mono ?_; rintro e w3 ⟨rfl, hbc⟩; have hz9 := hbc.size)) | (go_at_call 11; refine (spec_md4_any b0 b1 b2 b3 i0 i1 i2 i3 i4 i5 i6 i7 _).mono ?_; rintro e w2 ⟨rfl, hbb⟩; have hz9 := hbb.size))
  go_wp2
  go_ret
  refine ⟨congrArg (fun b => Ending.returned (Value.bool b)) md_fixed, Below.trans (Below.trans (Below.trans (Below.drew (Below.alloc (Below.alloc (Below.refl _ _) ?_ _) ?_ _)) (hba.mono ?_)) (hbb.mono ?_)) (hbc.mono ?_)⟩
  all_goals (first | omega | (simp <;> omega))

end Go.Proofs.Ytginjbmjofkomaa
