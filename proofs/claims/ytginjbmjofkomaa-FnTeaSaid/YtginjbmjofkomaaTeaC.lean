/- Walks of impl.Tea and the law FnTea. -/
import Derived.Test.YtginjbmjofkomaaTeaB
import Derived.Deep.RegionHeld3
namespace Go.Proofs.Ytginjbmjofkomaa
open Go.RowKit

set_option maxHeartbeats 400000 in
theorem impl_tea_any (b0 b1 b2 b3 i0 i1 i2 i3 : Int) (w : World) :
    Calls Try.prog 8 #[.agg #[.int .u32 b0, .int .u32 b1, .int .u32 b2, .int .u32 b3], .agg #[.int .u32 i0, .int .u32 i1, .int .u32 i2, .int .u32 i3]] w
      fun e w' => e = .returned (.agg #[.int .u32 (out0 b0 b1 i0 i1 i2 i3), .int .u32 (out1 b0 b1 i0 i1 i2 i3), .int .u32 b2, .int .u32 b3]) ∧ Below w.heap.size w w' := by
  go_enter Try.func8, Try.ntmps8
  go_wp2
  go_region_held3 (fun w' => w'.cell? ⟨w.heap.size, 0, none⟩ = some (.int .u32 b0) ∧ w'.cell? ⟨w.heap.size, 1, none⟩ = some (.int .u32 b1) ∧ w'.cell? ⟨w.heap.size, 2, none⟩ = some (.int .u32 b2) ∧ w'.cell? ⟨w.heap.size, 3, none⟩ = some (.int .u32 b3)) (first | go_keep | (refine ⟨?_, ?_, ?_, ?_⟩ <;> (rw [hb.cell (by simp <;> omega)]; simp [go_sem])) | (simp [go_sem, hc]; done) | (simp [go_sem, hc] at *; omega)) (first | (go_at_call 13; refine (tea_any b0 b1 b2 b3 i0 i1 i2 i3 _ _ ?_ ?_ ?_ ?_ ?_).mono ?_; (simp); (simp [go_sem]); (simp [go_sem]); (simp [go_sem]); (simp [go_sem]); rintro e w' ⟨rfl, hb⟩; obtain ⟨hc, hf⟩ := bcell hb))
  go_wp2
  refine bodyPost_ret (v := .agg #[.int .u32 (out0 b0 b1 i0 i1 i2 i3), .int .u32 (out1 b0 b1 i0 i1 i2 i3), .int .u32 b2, .int .u32 b3]) (by simp [results, Try.results8, go_sem, hc]) rfl ⟨rfl, ?_⟩
  refine Below.setCell (Below.setCell (Below.setCell (Below.setCell (Below.trans (Below.drew (Below.alloc (Below.alloc (Below.alloc (Below.refl _ _) ?_ _) ?_ _) ?_ _)) (hb.mono ?_)) ?_ _) ?_ _) ?_ _) ?_ _
  all_goals (first | omega | (simp <;> omega))

set_option maxHeartbeats 400000 in
theorem law_tea_any (b0 b1 b2 b3 i0 i1 i2 i3 : Int) (w : World) :
    Calls Try.prog 4 #[.agg #[.int .u32 b0, .int .u32 b1, .int .u32 b2, .int .u32 b3], .agg #[.int .u32 i0, .int .u32 i1, .int .u32 i2, .int .u32 i3]] w
      fun e w' => e = .returned (.bool true) ∧ Below w.heap.size w w' := by
  go_enter Try.func4, Try.ntmps4
  go_wp2
  go_region_held3 (fun w' => w'.cell? ⟨w.heap.size, 0, none⟩ = some (.int .u32 b0) ∧ w'.cell? ⟨w.heap.size, 1, none⟩ = some (.int .u32 b1) ∧ w'.cell? ⟨w.heap.size, 2, none⟩ = some (.int .u32 b2) ∧ w'.cell? ⟨w.heap.size, 3, none⟩ = some (.int .u32 b3) ∧ w'.cell? ⟨w.heap.size + 1, 0, none⟩ = some (.int .u32 i0) ∧ w'.cell? ⟨w.heap.size + 1, 1, none⟩ = some (.int .u32 i1) ∧ w'.cell? ⟨w.heap.size + 1, 2, none⟩ = some (.int .u32 i2) ∧ w'.cell? ⟨w.heap.size + 1, 3, none⟩ = some (.int .u32 i3))
    (refine ⟨?_, ?_, ?_, ?_, ?_, ?_, ?_, ?_⟩ <;> first | (rw [hb9.cell (by simp <;> omega)]; first | (simp [go_sem]; done) | (simp [*]; done)) | (rw [hb8.cell (by simp <;> omega)]; simp [go_sem]; done) | (simp [go_sem]; done))
    (first | (go_at_call 8; refine (impl_tea_any b0 b1 b2 b3 i0 i1 i2 i3 _).mono ?_; rintro e w1 ⟨rfl, hb8⟩; have hz := hb8.size; try simp only [World.size_alloc, World.size_drew] at hz) | (go_at_call 9; refine (spec_tea_any b0 b1 b2 b3 i0 i1 i2 i3 _).mono ?_; rintro e w2 ⟨rfl, hb9⟩; have hz9 := hb9.size))
  go_wp2
  go_ret
  refine ⟨rfl, Below.trans (Below.trans (Below.drew (Below.alloc (Below.alloc (Below.refl _ _) ?_ _) ?_ _)) (hb8.mono ?_)) (hb9.mono ?_)⟩
  all_goals (first | omega | (simp <;> omega))

end Go.Proofs.Ytginjbmjofkomaa
