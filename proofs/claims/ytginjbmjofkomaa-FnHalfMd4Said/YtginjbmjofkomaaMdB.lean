/- Walk of md4.HalfMD4Transform. -/
import Derived.Test.YtginjbmjofkomaaMdA
namespace Go.Proofs.Ytginjbmjofkomaa
open Go.RowKit

/-- a step on the four words, which then change places -/
def stp (q : Int × Int × Int × Int) (t : Nat × Int × Int) : Int × Int × Int × Int :=
  (q.2.2.2, R t.1 q.1 q.2.1 q.2.2.1 q.2.2.2 t.2.1 t.2.2, q.2.1, q.2.2.1)
/-- the schedule: of each step the function, the word and the turn -/
def sched (i0 i1 i2 i3 i4 i5 i6 i7 : Int) : List (Nat × Int × Int) :=
  [(0, i0 % 4294967296, 3), (0, i1 % 4294967296, 7), (0, i2 % 4294967296, 11), (0, i3 % 4294967296, 19), (0, i4 % 4294967296, 3), (0, i5 % 4294967296, 7), (0, i6 % 4294967296, 11), (0, i7 % 4294967296, 19), (1, (i1 + 1518500249) % 4294967296, 3), (1, (i3 + 1518500249) % 4294967296, 5), (1, (i5 + 1518500249) % 4294967296, 9), (1, (i7 + 1518500249) % 4294967296, 13), (1, (i0 + 1518500249) % 4294967296, 3), (1, (i2 + 1518500249) % 4294967296, 5), (1, (i4 + 1518500249) % 4294967296, 9), (1, (i6 + 1518500249) % 4294967296, 13), (2, (i3 + 1859775393) % 4294967296, 3), (2, (i7 + 1859775393) % 4294967296, 9), (2, (i2 + 1859775393) % 4294967296, 11), (2, (i6 + 1859775393) % 4294967296, 15), (2, (i1 + 1859775393) % 4294967296, 3), (2, (i5 + 1859775393) % 4294967296, 9), (2, (i0 + 1859775393) % 4294967296, 11), (2, (i4 + 1859775393) % 4294967296, 15)]
def mdT (b0 b1 b2 b3 i0 i1 i2 i3 i4 i5 i6 i7 : Int) : Int × Int × Int × Int := (sched i0 i1 i2 i3 i4 i5 i6 i7).foldl stp (b0, b1, b2, b3)
def mdOut (b0 b1 b2 b3 i0 i1 i2 i3 i4 i5 i6 i7 : Int) : Int := (b1 + (mdT b0 b1 b2 b3 i0 i1 i2 i3 i4 i5 i6 i7).2.1) % 4294967296

set_option maxRecDepth 100000 in
set_option maxHeartbeats 4000000 in
theorem md4_any (b0 b1 b2 b3 i0 i1 i2 i3 i4 i5 i6 i7 : Int) (w : World) (p : Nat) (hp : p < w.heap.size)
    (c0 : w.cell? ⟨p, 0, none⟩ = some (.int .u32 i0)) (c1 : w.cell? ⟨p, 1, none⟩ = some (.int .u32 i1)) (c2 : w.cell? ⟨p, 2, none⟩ = some (.int .u32 i2)) (c3 : w.cell? ⟨p, 3, none⟩ = some (.int .u32 i3)) (c4 : w.cell? ⟨p, 4, none⟩ = some (.int .u32 i4)) (c5 : w.cell? ⟨p, 5, none⟩ = some (.int .u32 i5)) (c6 : w.cell? ⟨p, 6, none⟩ = some (.int .u32 i6)) (c7 : w.cell? ⟨p, 7, none⟩ = some (.int .u32 i7)) :
    Calls Try.prog 14 #[.agg #[.int .u32 b0, .int .u32 b1, .int .u32 b2, .int .u32 b3], .slice (some ⟨p, 0, none⟩) 8 8] w
      fun e w' => e = .returned (.int .u32 (mdOut b0 b1 b2 b3 i0 i1 i2 i3 i4 i5 i6 i7)) ∧ Below w.heap.size w w' := by
  go_enter Try.func14, Try.ntmps14
  go_wp2
  go_quiet (fail)
  go_wp2_with fail
  refine (R_any 0 (by decide) _ _ _ _ _ _ _ (by decide) (by decide)).mono ?_
  rintro e w' ⟨rfl, rfl⟩
  generalize h1 : R 0 _ _ _ _ _ _ = v1
  have H1 := Lib.hid h1
  clear h1
  go_wp2_with fail
  refine (R_any 0 (by decide) _ _ _ _ _ _ _ (by decide) (by decide)).mono ?_
  rintro e w' ⟨rfl, rfl⟩
  generalize h2 : R 0 _ _ _ _ _ _ = v2
  have H2 := Lib.hid h2
  clear h2
  go_wp2_with fail
  refine (R_any 0 (by decide) _ _ _ _ _ _ _ (by decide) (by decide)).mono ?_
  rintro e w' ⟨rfl, rfl⟩
  generalize h3 : R 0 _ _ _ _ _ _ = v3
  have H3 := Lib.hid h3
  clear h3
  go_wp2_with fail
  refine (R_any 0 (by decide) _ _ _ _ _ _ _ (by decide) (by decide)).mono ?_
  rintro e w' ⟨rfl, rfl⟩
  generalize h4 : R 0 _ _ _ _ _ _ = v4
  have H4 := Lib.hid h4
  clear h4
  go_wp2_with fail
  refine (R_any 0 (by decide) _ _ _ _ _ _ _ (by decide) (by decide)).mono ?_
  rintro e w' ⟨rfl, rfl⟩
  generalize h5 : R 0 _ _ _ _ _ _ = v5
  have H5 := Lib.hid h5
  clear h5
  go_wp2_with fail
  refine (R_any 0 (by decide) _ _ _ _ _ _ _ (by decide) (by decide)).mono ?_
  rintro e w' ⟨rfl, rfl⟩
  generalize h6 : R 0 _ _ _ _ _ _ = v6
  have H6 := Lib.hid h6
  clear h6
  go_wp2_with fail
  refine (R_any 0 (by decide) _ _ _ _ _ _ _ (by decide) (by decide)).mono ?_
  rintro e w' ⟨rfl, rfl⟩
  generalize h7 : R 0 _ _ _ _ _ _ = v7
  have H7 := Lib.hid h7
  clear h7
  go_wp2_with fail
  refine (R_any 0 (by decide) _ _ _ _ _ _ _ (by decide) (by decide)).mono ?_
  rintro e w' ⟨rfl, rfl⟩
  generalize h8 : R 0 _ _ _ _ _ _ = v8
  have H8 := Lib.hid h8
  clear h8
  go_wp2_with fail
  refine (R_any 1 (by decide) _ _ _ _ _ _ _ (by decide) (by decide)).mono ?_
  rintro e w' ⟨rfl, rfl⟩
  generalize h9 : R 1 _ _ _ _ _ _ = v9
  have H9 := Lib.hid h9
  clear h9
  go_wp2_with fail
  refine (R_any 1 (by decide) _ _ _ _ _ _ _ (by decide) (by decide)).mono ?_
  rintro e w' ⟨rfl, rfl⟩
  generalize h10 : R 1 _ _ _ _ _ _ = v10
  have H10 := Lib.hid h10
  clear h10
  go_wp2_with fail
  refine (R_any 1 (by decide) _ _ _ _ _ _ _ (by decide) (by decide)).mono ?_
  rintro e w' ⟨rfl, rfl⟩
  generalize h11 : R 1 _ _ _ _ _ _ = v11
  have H11 := Lib.hid h11
  clear h11
  go_wp2_with fail
  refine (R_any 1 (by decide) _ _ _ _ _ _ _ (by decide) (by decide)).mono ?_
  rintro e w' ⟨rfl, rfl⟩
  generalize h12 : R 1 _ _ _ _ _ _ = v12
  have H12 := Lib.hid h12
  clear h12
  go_wp2_with fail
  refine (R_any 1 (by decide) _ _ _ _ _ _ _ (by decide) (by decide)).mono ?_
  rintro e w' ⟨rfl, rfl⟩
  generalize h13 : R 1 _ _ _ _ _ _ = v13
  have H13 := Lib.hid h13
  clear h13
  go_wp2_with fail
  refine (R_any 1 (by decide) _ _ _ _ _ _ _ (by decide) (by decide)).mono ?_
  rintro e w' ⟨rfl, rfl⟩
  generalize h14 : R 1 _ _ _ _ _ _ = v14
  have H14 := Lib.hid h14
  clear h14
  go_wp2_with fail
  refine (R_any 1 (by decide) _ _ _ _ _ _ _ (by decide) (by decide)).mono ?_
  rintro e w' ⟨rfl, rfl⟩
  generalize h15 : R 1 _ _ _ _ _ _ = v15
  have H15 := Lib.hid h15
  clear h15
  go_wp2_with fail
  refine (R_any 1 (by decide) _ _ _ _ _ _ _ (by decide) (by decide)).mono ?_
  rintro e w' ⟨rfl, rfl⟩
  generalize h16 : R 1 _ _ _ _ _ _ = v16
  have H16 := Lib.hid h16
  clear h16
  go_wp2_with fail
  refine (R_any 2 (by decide) _ _ _ _ _ _ _ (by decide) (by decide)).mono ?_
  rintro e w' ⟨rfl, rfl⟩
  generalize h17 : R 2 _ _ _ _ _ _ = v17
  have H17 := Lib.hid h17
  clear h17
  go_wp2_with fail
  refine (R_any 2 (by decide) _ _ _ _ _ _ _ (by decide) (by decide)).mono ?_
  rintro e w' ⟨rfl, rfl⟩
  generalize h18 : R 2 _ _ _ _ _ _ = v18
  have H18 := Lib.hid h18
  clear h18
  go_wp2_with fail
  refine (R_any 2 (by decide) _ _ _ _ _ _ _ (by decide) (by decide)).mono ?_
  rintro e w' ⟨rfl, rfl⟩
  generalize h19 : R 2 _ _ _ _ _ _ = v19
  have H19 := Lib.hid h19
  clear h19
  go_wp2_with fail
  refine (R_any 2 (by decide) _ _ _ _ _ _ _ (by decide) (by decide)).mono ?_
  rintro e w' ⟨rfl, rfl⟩
  generalize h20 : R 2 _ _ _ _ _ _ = v20
  have H20 := Lib.hid h20
  clear h20
  go_wp2_with fail
  refine (R_any 2 (by decide) _ _ _ _ _ _ _ (by decide) (by decide)).mono ?_
  rintro e w' ⟨rfl, rfl⟩
  generalize h21 : R 2 _ _ _ _ _ _ = v21
  have H21 := Lib.hid h21
  clear h21
  go_wp2_with fail
  refine (R_any 2 (by decide) _ _ _ _ _ _ _ (by decide) (by decide)).mono ?_
  rintro e w' ⟨rfl, rfl⟩
  generalize h22 : R 2 _ _ _ _ _ _ = v22
  have H22 := Lib.hid h22
  clear h22
  go_wp2_with fail
  refine (R_any 2 (by decide) _ _ _ _ _ _ _ (by decide) (by decide)).mono ?_
  rintro e w' ⟨rfl, rfl⟩
  generalize h23 : R 2 _ _ _ _ _ _ = v23
  have H23 := Lib.hid h23
  clear h23
  go_wp2_with fail
  refine (R_any 2 (by decide) _ _ _ _ _ _ _ (by decide) (by decide)).mono ?_
  rintro e w' ⟨rfl, rfl⟩
  generalize h24 : R 2 _ _ _ _ _ _ = v24
  have H24 := Lib.hid h24
  clear h24
  go_wp2
  go_ret
  refine ⟨?_, ?_⟩
  · have e : (mdT b0 b1 b2 b3 i0 i1 i2 i3 i4 i5 i6 i7).2.1 = v24 := by
      simp only [mdT, sched, List.foldl, stp, H1.out, H2.out, H3.out, H4.out, H5.out, H6.out, H7.out, H8.out, H9.out, H10.out, H11.out, H12.out, H13.out, H14.out, H15.out, H16.out, H17.out, H18.out, H19.out, H20.out, H21.out, H22.out, H23.out, H24.out]
    rw [mdOut, e]
    rfl
  · refine Below.setCell (Below.setCell (Below.setCell (Below.setCell (below_drewN (Below.alloc (Below.refl _ _) ?_ _) _) ?_ _) ?_ _) ?_ _) ?_ _
    all_goals (first | omega | (simp <;> omega))

end Go.Proofs.Ytginjbmjofkomaa
