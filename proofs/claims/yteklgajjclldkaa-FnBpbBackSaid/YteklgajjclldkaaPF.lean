/- Walk of impl.BpbRead. -/
import Derived.Test.YteklgajjclldkaaPE
namespace Go.Proofs.Yteklgajjclldkaa
open Go.RowKit
attribute [local go_sem ↓] Go.wp_at_zero Go.wp_at_succ
set_option linter.unusedVariables false

theorem results_cell2 {fn : Func} {p t u : Tmp} {ty : TypeId} (h : fn.results = #[.cell p ty, .tmp t, .tmp u]) (tmps : Array Value) (P : Program) (w : World) :
    (results fn tmps).run P w =
      ((asAddr (tmps.getD p undef)).run P w).andThen fun a w₁ => ((loadVar ty a).run P w₁).andThen fun v w₂ => .ok (.tuple #[v, tmps.getD t undef, tmps.getD u undef]) w₂ := by
  simp only [results, h]
  simp [Sem.run_bind, Result.andThen]
theorem results_br (tmps : Array Value) (w : World) (g : Nat) (cs : Array Value) (hp : tmps.getD 4 undef = .pointer (some ⟨g, 0, none⟩)) (h : blkD w g = cs) (hs : cs.size = 19) :
    (results Try.f6 tmps).run Try.prog w = .ok (.tuple #[.agg cs, tmps.getD 5 undef, tmps.getD 6 undef]) w := by
  subst h
  rw [results_cell2 Try.results6]
  generalize tmps.getD 5 undef = vt
  generalize tmps.getD 6 undef = vu
  rw [hp]
  have hl := run_ld25 w g hs
  simp only [asAddr, ld25_eq, Sem.run_pure, Result.andThen_ok, hl]

set_option maxRecDepth 100000 in
set_option maxHeartbeats 8000000 in
theorem br20_any (ys : List Int) (w : World) (hB : Byt ys) (hl : ys.length = 13) (h512 : p16 ys 0 = 512) :
    Calls Try.prog 6 #[.int .i64 20, .string (strOfNums ys)] w fun e w' => e = .returned (.tuple #[.agg #[.int .i64 20, .int .i64 (512), .int .i64 (p8 ys 2), .int .i64 (p16 ys 3), .int .i64 (p8 ys 5), .int .i64 (p16 ys 6), .int .i64 (p16 ys 8), .int .i64 (p8 ys 10), .int .i64 (p16 ys 11), .int .i64 0, .int .i64 0, .int .i64 0, .int .i64 0, .int .i64 0, .int .i64 0, .int .i64 0, .int .i64 0, .string ⟨#[]⟩, .string ⟨#[]⟩], .int .i64 13, .bool true]) ∧ Below w.heap.size w w' := by
  obtain ⟨cap, W, hcv, hcap, hbW, hlt, hbys⟩ := conv_bys (w.alloc (.cells #[.int .i64 20, .int .i64 0, .int .i64 0, .int .i64 0, .int .i64 0, .int .i64 0, .int .i64 0, .int .i64 0, .int .i64 0, .int .i64 0, .int .i64 0, .int .i64 0, .int .i64 0, .int .i64 0, .int .i64 0, .int .i64 0, .int .i64 0, .string ⟨#[]⟩, .string ⟨#[]⟩] 25)) ys hB
  simp only [World.size_alloc] at hcv hbW hlt hbys
  have hg0 : blkD W w.heap.size = #[.int .i64 20, .int .i64 0, .int .i64 0, .int .i64 0, .int .i64 0, .int .i64 0, .int .i64 0, .int .i64 0, .int .i64 0, .int .i64 0, .int .i64 0, .int .i64 0, .int .i64 0, .int .i64 0, .int .i64 0, .int .i64 0, .int .i64 0, .string ⟨#[]⟩, .string ⟨#[]⟩] := (bblk (W := w.alloc (.cells #[.int .i64 20, .int .i64 0, .int .i64 0, .int .i64 0, .int .i64 0, .int .i64 0, .int .i64 0, .int .i64 0, .int .i64 0, .int .i64 0, .int .i64 0, .int .i64 0, .int .i64 0, .int .i64 0, .int .i64 0, .int .i64 0, .int .i64 0, .string ⟨#[]⟩, .string ⟨#[]⟩] 25)) (by simpa using hbW) w.heap.size (by simp)).trans (blkD_alloc_at _ _ _ _ rfl)
  have hss : (strOfNums ys).size = 13 := by rw [strOfNums_size, hl]
  rw [hl] at hcv
  have HL := Lib.hid hl
  have HG0 := Lib.hid hg0
  have HBW := Lib.hid (((Below.refl w.heap.size w).alloc (Nat.le_refl _) (.cells #[.int .i64 20, .int .i64 0, .int .i64 0, .int .i64 0, .int .i64 0, .int .i64 0, .int .i64 0, .int .i64 0, .int .i64 0, .int .i64 0, .int .i64 0, .int .i64 0, .int .i64 0, .int .i64 0, .int .i64 0, .int .i64 0, .int .i64 0, .string ⟨#[]⟩, .string ⟨#[]⟩] 25)).trans (hbW.mono (Nat.le_succ _)))
  have HBYS := Lib.hid hbys
  have HBB := Lib.hid hB
  clear hbys hg0 hbW
  go_enter Try.func6, Try.ntmps6
  go_wp2_with fail
  refine (fb2_any (w.heap.size + 1) cap ys W HBYS.out HBB.out (by have := HL.out; omega) (by have := HL.out; omega) hlt h512).mono ?_
  rintro e W2 ⟨g2, rfl, hc2, hw2, hb2⟩
  have hne2 : g2 ≠ w.heap.size := by omega
  have hg2 : blkD W2 w.heap.size = #[.int .i64 20, .int .i64 0, .int .i64 0, .int .i64 0, .int .i64 0, .int .i64 0, .int .i64 0, .int .i64 0, .int .i64 0, .int .i64 0, .int .i64 0, .int .i64 0, .int .i64 0, .int .i64 0, .int .i64 0, .int .i64 0, .int .i64 0, .string ⟨#[]⟩, .string ⟨#[]⟩] := (bblk hb2 w.heap.size (by omega)).trans HG0.out
  have hbw2 : Below w.heap.size w W2 := HBW.out.trans (hb2.mono (by omega))
  have HBW2 := Lib.hid hbw2
  have HG2 := Lib.hid hg2
  have HC2 := Lib.hid hc2
  clear hb2 hc2 hg2 hbw2
  go_wp2_with fail
  refine (iof_x w.heap.size g2 (.int .i64 20) (.int .i64 0) (.int .i64 0) (.int .i64 0) (.int .i64 0) (.int .i64 0) (.int .i64 0) (.int .i64 0) (.int .i64 0) (.int .i64 0) (.int .i64 0) (.int .i64 0) (.int .i64 0) (.int .i64 0) (.int .i64 0) (.int .i64 0) (.int .i64 0) (.string ⟨#[]⟩) (.string ⟨#[]⟩) _ _ _ _ _ _ _ _ W2 HG2.out HC2.out hne2 (by omega) (by omega) (HBB.out.p8 2).1 (HBB.out.p8 2).2 (HBB.out.p16 3).1 (HBB.out.p16 3).2 (HBB.out.p8 5).1 (HBB.out.p8 5).2 (HBB.out.p16 6).1 (HBB.out.p16 6).2 (HBB.out.p16 8).1 (HBB.out.p16 8).2 (HBB.out.p8 10).1 (HBB.out.p8 10).2 (HBB.out.p16 11).1 (HBB.out.p16 11).2).mono ?_
  rintro e W3 ⟨rfl, hall, hbel3, -⟩
  have hbel : ∀ B, B ≤ w.heap.size → Below B w W3 := fun B hB => (HBW2.out.mono hB).trans (hbel3 B hB)
  have HBEL := Lib.hid hbel
  clear hbel hbel3
  go_wp2_with fail
  refine bodyPost_ret (results_br _ _ w.heap.size #[.int .i64 20, .int .i64 (512), .int .i64 (p8 ys 2), .int .i64 (p16 ys 3), .int .i64 (p8 ys 5), .int .i64 (p16 ys 6), .int .i64 (p16 ys 8), .int .i64 (p8 ys 10), .int .i64 (p16 ys 11), .int .i64 0, .int .i64 0, .int .i64 0, .int .i64 0, .int .i64 0, .int .i64 0, .int .i64 0, .int .i64 0, .string ⟨#[]⟩, .string ⟨#[]⟩] (by rfl) (blkD_setRow_same _ _ _ (by rw [hall]; exact Nat.succ_pos _)) rfl) rfl ⟨rfl, ?_⟩
  exact below_setRow (HBEL.out w.heap.size (Nat.le_refl _)) (Nat.le_refl _) _

set_option maxRecDepth 100000 in
set_option maxHeartbeats 8000000 in
theorem br331_any (ys : List Int) (w : World) (hB : Byt ys) (hl : ys.length = 25) (h512 : p16 ys 0 = 512) :
    Calls Try.prog 6 #[.int .i64 331, .string (strOfNums ys)] w fun e w' => e = .returned (.tuple #[.agg #[.int .i64 331, .int .i64 (512), .int .i64 (p8 ys 2), .int .i64 (p16 ys 3), .int .i64 (p8 ys 5), .int .i64 (p16 ys 6), .int .i64 (p16 ys 8), .int .i64 (p8 ys 10), .int .i64 (p16 ys 11), .int .i64 (p16 ys 13), .int .i64 (p16 ys 15), .int .i64 (p32 ys 17), .int .i64 (p32 ys 21), .int .i64 0, .int .i64 0, .int .i64 0, .int .i64 0, .string ⟨#[]⟩, .string ⟨#[]⟩], .int .i64 25, .bool true]) ∧ Below w.heap.size w w' := by
  obtain ⟨cap, W, hcv, hcap, hbW, hlt, hbys⟩ := conv_bys (w.alloc (.cells #[.int .i64 331, .int .i64 0, .int .i64 0, .int .i64 0, .int .i64 0, .int .i64 0, .int .i64 0, .int .i64 0, .int .i64 0, .int .i64 0, .int .i64 0, .int .i64 0, .int .i64 0, .int .i64 0, .int .i64 0, .int .i64 0, .int .i64 0, .string ⟨#[]⟩, .string ⟨#[]⟩] 25)) ys hB
  simp only [World.size_alloc] at hcv hbW hlt hbys
  have hg0 : blkD W w.heap.size = #[.int .i64 331, .int .i64 0, .int .i64 0, .int .i64 0, .int .i64 0, .int .i64 0, .int .i64 0, .int .i64 0, .int .i64 0, .int .i64 0, .int .i64 0, .int .i64 0, .int .i64 0, .int .i64 0, .int .i64 0, .int .i64 0, .int .i64 0, .string ⟨#[]⟩, .string ⟨#[]⟩] := (bblk (W := w.alloc (.cells #[.int .i64 331, .int .i64 0, .int .i64 0, .int .i64 0, .int .i64 0, .int .i64 0, .int .i64 0, .int .i64 0, .int .i64 0, .int .i64 0, .int .i64 0, .int .i64 0, .int .i64 0, .int .i64 0, .int .i64 0, .int .i64 0, .int .i64 0, .string ⟨#[]⟩, .string ⟨#[]⟩] 25)) (by simpa using hbW) w.heap.size (by simp)).trans (blkD_alloc_at _ _ _ _ rfl)
  have hss : (strOfNums ys).size = 25 := by rw [strOfNums_size, hl]
  rw [hl] at hcv
  have HL := Lib.hid hl
  have HG0 := Lib.hid hg0
  have HBW := Lib.hid (((Below.refl w.heap.size w).alloc (Nat.le_refl _) (.cells #[.int .i64 331, .int .i64 0, .int .i64 0, .int .i64 0, .int .i64 0, .int .i64 0, .int .i64 0, .int .i64 0, .int .i64 0, .int .i64 0, .int .i64 0, .int .i64 0, .int .i64 0, .int .i64 0, .int .i64 0, .int .i64 0, .int .i64 0, .string ⟨#[]⟩, .string ⟨#[]⟩] 25)).trans (hbW.mono (Nat.le_succ _)))
  have HBYS := Lib.hid hbys
  have HBB := Lib.hid hB
  clear hbys hg0 hbW
  go_enter Try.func6, Try.ntmps6
  go_wp2_with fail
  refine (fb3_any (w.heap.size + 1) cap ys W HBYS.out HBB.out (by have := HL.out; omega) (by have := HL.out; omega) hlt h512).mono ?_
  rintro e W2 ⟨g3, g2, rfl, hc3, hc2, hw3, hw2, hb2⟩
  have hne2 : g2 ≠ w.heap.size := by omega
  have hne3 : g3 ≠ w.heap.size := by omega
  have hg2 : blkD W2 w.heap.size = #[.int .i64 331, .int .i64 0, .int .i64 0, .int .i64 0, .int .i64 0, .int .i64 0, .int .i64 0, .int .i64 0, .int .i64 0, .int .i64 0, .int .i64 0, .int .i64 0, .int .i64 0, .int .i64 0, .int .i64 0, .int .i64 0, .int .i64 0, .string ⟨#[]⟩, .string ⟨#[]⟩] := (bblk hb2 w.heap.size (by omega)).trans HG0.out
  have hbw2 : Below w.heap.size w W2 := HBW.out.trans (hb2.mono (by omega))
  have HBW2 := Lib.hid hbw2
  have HG2 := Lib.hid hg2
  have HC2 := Lib.hid hc2
  have HC3 := Lib.hid hc3
  clear hb2 hc2 hg2 hbw2 hc3
  go_wp2_with fail
  refine (iof_y w.heap.size g2 g3 (.int .i64 331) (.int .i64 0) (.int .i64 0) (.int .i64 0) (.int .i64 0) (.int .i64 0) (.int .i64 0) (.int .i64 0) (.int .i64 0) (.int .i64 0) (.int .i64 0) (.int .i64 0) (.int .i64 0) (.int .i64 0) (.int .i64 0) (.int .i64 0) (.int .i64 0) (.string ⟨#[]⟩) (.string ⟨#[]⟩) _ _ _ _ _ _ _ _ _ _ _ _ W2 HG2.out HC2.out HC3.out hne2 hne3 (by omega) (by omega) (HBB.out.p8 2).1 (HBB.out.p8 2).2 (HBB.out.p16 3).1 (HBB.out.p16 3).2 (HBB.out.p8 5).1 (HBB.out.p8 5).2 (HBB.out.p16 6).1 (HBB.out.p16 6).2 (HBB.out.p16 8).1 (HBB.out.p16 8).2 (HBB.out.p8 10).1 (HBB.out.p8 10).2 (HBB.out.p16 11).1 (HBB.out.p16 11).2 (HBB.out.p16 13).1 (HBB.out.p16 13).2 (HBB.out.p16 15).1 (HBB.out.p16 15).2 (HBB.out.p32 17).1 (HBB.out.p32 17).2 (HBB.out.p32 21).1 (HBB.out.p32 21).2).mono ?_
  rintro e W3 ⟨rfl, hall, hbel3, -⟩
  have hbel : ∀ B, B ≤ w.heap.size → Below B w W3 := fun B hB => (HBW2.out.mono hB).trans (hbel3 B hB)
  have HBEL := Lib.hid hbel
  clear hbel hbel3
  go_wp2_with fail
  refine bodyPost_ret (results_br _ _ w.heap.size #[.int .i64 331, .int .i64 (512), .int .i64 (p8 ys 2), .int .i64 (p16 ys 3), .int .i64 (p8 ys 5), .int .i64 (p16 ys 6), .int .i64 (p16 ys 8), .int .i64 (p8 ys 10), .int .i64 (p16 ys 11), .int .i64 (p16 ys 13), .int .i64 (p16 ys 15), .int .i64 (p32 ys 17), .int .i64 (p32 ys 21), .int .i64 0, .int .i64 0, .int .i64 0, .int .i64 0, .string ⟨#[]⟩, .string ⟨#[]⟩] (by rfl) (blkD_setRow_same _ _ _ (by rw [hall]; exact Nat.succ_pos _)) rfl) rfl ⟨rfl, ?_⟩
  exact below_setRow (HBEL.out w.heap.size (Nat.le_refl _)) (Nat.le_refl _) _

set_option maxRecDepth 100000 in
set_option maxHeartbeats 8000000 in
theorem br40_any (ys : List Int) (w : World) (hB : Byt ys) (hl : ys.length = 51) (h512 : p16 ys 0 = 512) (h41 : p8 ys 27 = 41) :
    Calls Try.prog 6 #[.int .i64 40, .string (strOfNums ys)] w fun e w' => e = .returned (.tuple #[.agg #[.int .i64 40, .int .i64 (512), .int .i64 (p8 ys 2), .int .i64 (p16 ys 3), .int .i64 (p8 ys 5), .int .i64 (p16 ys 6), .int .i64 (p16 ys 8), .int .i64 (p8 ys 10), .int .i64 (p16 ys 11), .int .i64 (p16 ys 13), .int .i64 (p16 ys 15), .int .i64 (p32 ys 17), .int .i64 (p32 ys 21), .int .i64 (p8 ys 25), .int .i64 (p8 ys 26), .int .i64 41, .int .i64 (p32 ys 28), .string (strOfNums (trimL (subL ys 32 11))), .string (strOfNums (trimL (subL ys 43 8)))], .int .i64 51, .bool true]) ∧ Below w.heap.size w w' := by
  obtain ⟨cap, W, hcv, hcap, hbW, hlt, hbys⟩ := conv_bys (w.alloc (.cells #[.int .i64 40, .int .i64 0, .int .i64 0, .int .i64 0, .int .i64 0, .int .i64 0, .int .i64 0, .int .i64 0, .int .i64 0, .int .i64 0, .int .i64 0, .int .i64 0, .int .i64 0, .int .i64 0, .int .i64 0, .int .i64 0, .int .i64 0, .string ⟨#[]⟩, .string ⟨#[]⟩] 25)) ys hB
  simp only [World.size_alloc] at hcv hbW hlt hbys
  have hg0 : blkD W w.heap.size = #[.int .i64 40, .int .i64 0, .int .i64 0, .int .i64 0, .int .i64 0, .int .i64 0, .int .i64 0, .int .i64 0, .int .i64 0, .int .i64 0, .int .i64 0, .int .i64 0, .int .i64 0, .int .i64 0, .int .i64 0, .int .i64 0, .int .i64 0, .string ⟨#[]⟩, .string ⟨#[]⟩] := (bblk (W := w.alloc (.cells #[.int .i64 40, .int .i64 0, .int .i64 0, .int .i64 0, .int .i64 0, .int .i64 0, .int .i64 0, .int .i64 0, .int .i64 0, .int .i64 0, .int .i64 0, .int .i64 0, .int .i64 0, .int .i64 0, .int .i64 0, .int .i64 0, .int .i64 0, .string ⟨#[]⟩, .string ⟨#[]⟩] 25)) (by simpa using hbW) w.heap.size (by simp)).trans (blkD_alloc_at _ _ _ _ rfl)
  have hss : (strOfNums ys).size = 51 := by rw [strOfNums_size, hl]
  rw [hl] at hcv
  have HL := Lib.hid hl
  have HG0 := Lib.hid hg0
  have HBW := Lib.hid (((Below.refl w.heap.size w).alloc (Nat.le_refl _) (.cells #[.int .i64 40, .int .i64 0, .int .i64 0, .int .i64 0, .int .i64 0, .int .i64 0, .int .i64 0, .int .i64 0, .int .i64 0, .int .i64 0, .int .i64 0, .int .i64 0, .int .i64 0, .int .i64 0, .int .i64 0, .int .i64 0, .int .i64 0, .string ⟨#[]⟩, .string ⟨#[]⟩] 25)).trans (hbW.mono (Nat.le_succ _)))
  have HBYS := Lib.hid hbys
  have HBB := Lib.hid hB
  clear hbys hg0 hbW
  go_enter Try.func6, Try.ntmps6
  go_wp2_with fail
  refine (fb4_any (w.heap.size + 1) cap ys W HBYS.out HBB.out (by have := HL.out; omega) (by have := HL.out; omega) hlt h512 h41).mono ?_
  rintro e W2 ⟨g4, g3, g2, rfl, hc4, hc3, hc2, hw4, hw3, hw2, hb2⟩
  have hne2 : g2 ≠ w.heap.size := by omega
  have hne3 : g3 ≠ w.heap.size := by omega
  have hneg4 : g4 ≠ w.heap.size := by omega
  have hg2 : blkD W2 w.heap.size = #[.int .i64 40, .int .i64 0, .int .i64 0, .int .i64 0, .int .i64 0, .int .i64 0, .int .i64 0, .int .i64 0, .int .i64 0, .int .i64 0, .int .i64 0, .int .i64 0, .int .i64 0, .int .i64 0, .int .i64 0, .int .i64 0, .int .i64 0, .string ⟨#[]⟩, .string ⟨#[]⟩] := (bblk hb2 w.heap.size (by omega)).trans HG0.out
  have hbw2 : Below w.heap.size w W2 := HBW.out.trans (hb2.mono (by omega))
  have HBW2 := Lib.hid hbw2
  have HG2 := Lib.hid hg2
  have HC2 := Lib.hid hc2
  have HC3 := Lib.hid hc3
  have HC4 := Lib.hid hc4
  have cp : W2.cell? ⟨g4, 0, none⟩ = some (.pointer (some ⟨g3, 0, none⟩)) := by rw [cell_blkD 0 (by rw [hc4]; simp), hc4]; rfl
  clear hb2 hc2 hg2 hbw2 hc3 hc4
  go_wp2_with fail
  refine (iof_y w.heap.size g2 g3 (.int .i64 40) (.int .i64 0) (.int .i64 0) (.int .i64 0) (.int .i64 0) (.int .i64 0) (.int .i64 0) (.int .i64 0) (.int .i64 0) (.int .i64 0) (.int .i64 0) (.int .i64 0) (.int .i64 0) (.int .i64 0) (.int .i64 0) (.int .i64 0) (.int .i64 0) (.string ⟨#[]⟩) (.string ⟨#[]⟩) _ _ _ _ _ _ _ _ _ _ _ _ W2 HG2.out HC2.out HC3.out hne2 hne3 (by omega) (by omega) (HBB.out.p8 2).1 (HBB.out.p8 2).2 (HBB.out.p16 3).1 (HBB.out.p16 3).2 (HBB.out.p8 5).1 (HBB.out.p8 5).2 (HBB.out.p16 6).1 (HBB.out.p16 6).2 (HBB.out.p16 8).1 (HBB.out.p16 8).2 (HBB.out.p8 10).1 (HBB.out.p8 10).2 (HBB.out.p16 11).1 (HBB.out.p16 11).2 (HBB.out.p16 13).1 (HBB.out.p16 13).2 (HBB.out.p16 15).1 (HBB.out.p16 15).2 (HBB.out.p32 17).1 (HBB.out.p32 17).2 (HBB.out.p32 21).1 (HBB.out.p32 21).2).mono ?_
  rintro e W3 ⟨rfl, hall, hbel3, hoth3⟩
  have hc43 : blkD W3 g4 = #[.pointer (some ⟨g3, 0, none⟩), .int .u8 (p8 ys 25), .int .u8 (p8 ys 26), .int .u8 41, .int .u32 (p32 ys 28), .string (strOfNums (trimL (subL ys 32 11))), .string (strOfNums (trimL (subL ys 43 8)))] := (hoth3 g4 hneg4).trans HC4.out
  have hbel : ∀ B, B ≤ w.heap.size → Below B w W3 := fun B hB => (HBW2.out.mono hB).trans (hbel3 B hB)
  obtain ⟨g0, hg00⟩ : ∃ g0, g0 = w.heap.size := ⟨_, rfl⟩
  rw [← hg00] at hall hneg4 ⊢
  have HG00 := Lib.hid hg00
  clear hg00
  have v25 := HBB.out.p8 25
  have v26 := HBB.out.p8 26
  have v28 := HBB.out.p32 28
  have HBEL := Lib.hid hbel
  have hz0 : (blkD W3 g0).size = 19 := by rw [hall]; rfl
  have cg40 : W3.cell? ⟨g4, 0, none⟩ = some (.pointer (some ⟨g3, 0, none⟩)) := by rw [cell_blkD 0 (by rw [hc43]; simp), hc43]; rfl
  have cg41 : W3.cell? ⟨g4, 1, none⟩ = some (.int .u8 (p8 ys 25)) := by rw [cell_blkD 1 (by rw [hc43]; simp), hc43]; rfl
  have cg42 : W3.cell? ⟨g4, 2, none⟩ = some (.int .u8 (p8 ys 26)) := by rw [cell_blkD 2 (by rw [hc43]; simp), hc43]; rfl
  have cg43 : W3.cell? ⟨g4, 3, none⟩ = some (.int .u8 41) := by rw [cell_blkD 3 (by rw [hc43]; simp), hc43]; rfl
  have cg44 : W3.cell? ⟨g4, 4, none⟩ = some (.int .u32 (p32 ys 28)) := by rw [cell_blkD 4 (by rw [hc43]; simp), hc43]; rfl
  have cg45 : W3.cell? ⟨g4, 5, none⟩ = some (.string (strOfNums (trimL (subL ys 32 11)))) := by rw [cell_blkD 5 (by rw [hc43]; simp), hc43]; rfl
  have cg46 : W3.cell? ⟨g4, 6, none⟩ = some (.string (strOfNums (trimL (subL ys 43 8)))) := by rw [cell_blkD 6 (by rw [hc43]; simp), hc43]; rfl
  have HALL := Lib.hid hall
  clear hbel hbel3 hall hoth3 hc43 cp
  go_wp2
  refine wp_region_met (by kernel_rfl) (fun w' => StB g0 (fun i => ([none, none, none, none, none, none, none, none, none, none, none, none, none, some (.int .i64 (p8 ys 25)), some (.int .i64 (p8 ys 26)), some (.int .i64 41), some (.int .i64 (p32 ys 28)), some (.string (strOfNums (trimL (subL ys 32 11)))), some (.string (strOfNums (trimL (subL ys 43 8))))] : List (Option Value)).getD i none) W3 w') (fun z1 z2 => StB g0 (fun i => ([none, none, none, none, none, none, none, none, none, none, none, none, none, some (.int .i64 (p8 ys 25)), some (.int .i64 (p8 ys 26)), some (.int .i64 41), some (.int .i64 (p32 ys 28)), some (.string (strOfNums (trimL (subL ys 32 11)))), some (.string (strOfNums (trimL (subL ys 43 8))))] : List (Option Value)).getD i none) z1 z2) (fun i v w' => FactQ g0 (fun i => ([none, none, none, none, none, none, none, none, none, none, none, none, none, some (.int .i64 (p8 ys 25)), some (.int .i64 (p8 ys 26)), some (.int .i64 41), some (.int .i64 (p32 ys 28)), some (.string (strOfNums (trimL (subL ys 32 11)))), some (.string (strOfNums (trimL (subL ys 43 8))))] : List (Option Value)).getD i none) (((.inl (.pointer (some ⟨g4, 0, none⟩))) :: (.inl (.pointer (some ⟨g4, 0, none⟩))) :: (.inl (.pointer (some ⟨g4, 1, none⟩))) :: (.inl (.int .u8 (p8 ys 25))) :: (.inl (.int .i64 (p8 ys 25))) :: (.inl (.pointer (some ⟨g4, 0, none⟩))) :: (.inl (.pointer (some ⟨g4, 0, none⟩))) :: (.inl (.pointer (some ⟨g4, 2, none⟩))) :: (.inl (.int .u8 (p8 ys 26))) :: (.inl (.int .i64 (p8 ys 26))) :: (.inl (.pointer (some ⟨g4, 0, none⟩))) :: (.inl (.pointer (some ⟨g4, 0, none⟩))) :: (.inl (.pointer (some ⟨g4, 3, none⟩))) :: (.inl (.int .u8 41)) :: (.inl (.int .i64 41)) :: (.inl (.pointer (some ⟨g4, 0, none⟩))) :: (.inl (.pointer (some ⟨g4, 0, none⟩))) :: (.inl (.pointer (some ⟨g4, 4, none⟩))) :: (.inl (.int .u32 (p32 ys 28))) :: (.inl (.int .i64 (p32 ys 28))) :: (.inl (.pointer (some ⟨g4, 0, none⟩))) :: (.inl (.pointer (some ⟨g4, 0, none⟩))) :: (.inl (.pointer (some ⟨g4, 5, none⟩))) :: (.inl (.string (strOfNums (trimL (subL ys 32 11))))) :: (.inl (.pointer (some ⟨g4, 0, none⟩))) :: (.inl (.pointer (some ⟨g4, 0, none⟩))) :: (.inl (.pointer (some ⟨g4, 6, none⟩))) :: (.inl (.string (strOfNums (trimL (subL ys 43 8))))) :: (.inl (.pointer (some ⟨g0, 13, none⟩))) :: (.inr 13) :: (.inl (.pointer (some ⟨g0, 14, none⟩))) :: (.inr 14) :: (.inl (.pointer (some ⟨g0, 15, none⟩))) :: (.inr 15) :: (.inl (.pointer (some ⟨g0, 16, none⟩))) :: (.inr 16) :: (.inl (.pointer (some ⟨g0, 17, none⟩))) :: (.inr 17) :: (.inl (.pointer (some ⟨g0, 18, none⟩))) :: (.inr 18) :: ([] : List (Sum Value Nat)))[i]?.getD (.inl undef)) v w') (by kernel_rfl) (fun z1 z2 h1 h2 => h1.trans h2) (by intro i v z1 z2 _ hE hF; exact FactQ.keep hE hF) (StB.drew _ _ _) ⟨⟨rfl, ?_⟩, ⟨rfl, ?_⟩, ⟨rfl, ?_⟩, ⟨rfl, ?_⟩, ⟨rfl, ?_⟩, ⟨rfl, ?_⟩, ⟨rfl, ?_⟩, ⟨rfl, ?_⟩, ⟨rfl, ?_⟩, ⟨rfl, ?_⟩, ⟨rfl, ?_⟩, ⟨rfl, ?_⟩, ⟨rfl, ?_⟩, ⟨rfl, ?_⟩, ⟨rfl, ?_⟩, ⟨rfl, ?_⟩, ⟨rfl, ?_⟩, ⟨rfl, ?_⟩, ⟨rfl, ?_⟩, ⟨rfl, ?_⟩, ⟨rfl, ?_⟩, ⟨rfl, ?_⟩, ⟨rfl, ?_⟩, ⟨rfl, ?_⟩, ⟨rfl, ?_⟩, ⟨rfl, ?_⟩, ⟨rfl, ?_⟩, ⟨rfl, ?_⟩, ⟨rfl, ?_⟩, ⟨rfl, ?_⟩, ⟨rfl, ?_⟩, ⟨rfl, ?_⟩, ⟨rfl, ?_⟩, ⟨rfl, ?_⟩, ⟨rfl, ?_⟩, ⟨rfl, ?_⟩, ⟨rfl, ?_⟩, ⟨rfl, ?_⟩, ⟨rfl, ?_⟩, ⟨rfl, ?_⟩, trivial⟩ ?_
  · intro a w' K hB hd hs hK; have d11 : a.tmps.getD 11 undef = .pointer (some ⟨g4, 0, none⟩) := hs 11 rfl; clear hd hs; go_simp; exact hK _ _ rfl (StB.refl _ _ _)
  · intro a w' K hB hd hs hK; have d65 : a.tmps.getD 65 undef = .pointer (some ⟨g4, 0, none⟩) := hd 0 rfl; clear hd hs; go_simp; exact hK _ _ rfl (StB.refl _ _ _)
  · intro a w' K hB hd hs hK; have d66 : a.tmps.getD 66 undef = .pointer (some ⟨g4, 0, none⟩) := hd 1 rfl; clear hd hs; go_simp; exact hK _ _ rfl (StB.refl _ _ _)
  · intro a w' K hB hd hs hK; have d67 : a.tmps.getD 67 undef = .pointer (some ⟨g4, 1, none⟩) := hd 2 rfl; clear hd hs; have hcell : w'.cell? ⟨g4, 1, none⟩ = some (.int .u8 (p8 ys 25)) := (World.cell?_of_block (a := ⟨g4, 1, none⟩) (hB.oth g4 hneg4)).trans cg41; go_simp; exact hK _ _ rfl (StB.refl _ _ _)
  · intro a w' K hB hd hs hK; have d68 : a.tmps.getD 68 undef = .int .u8 (p8 ys 25) := hd 3 rfl; clear hd hs; go_simp; first | exact hK _ _ rfl (StB.refl _ _ _) | exact hK _ _ (congrArg (Value.int .i64) (IntWalk.i64_in _ (by omega))) (StB.refl _ _ _)
  · intro a w' K hB hd hs hK; have d11 : a.tmps.getD 11 undef = .pointer (some ⟨g4, 0, none⟩) := hs 11 rfl; clear hd hs; go_simp; exact hK _ _ rfl (StB.refl _ _ _)
  · intro a w' K hB hd hs hK; have d70 : a.tmps.getD 70 undef = .pointer (some ⟨g4, 0, none⟩) := hd 5 rfl; clear hd hs; go_simp; exact hK _ _ rfl (StB.refl _ _ _)
  · intro a w' K hB hd hs hK; have d71 : a.tmps.getD 71 undef = .pointer (some ⟨g4, 0, none⟩) := hd 6 rfl; clear hd hs; go_simp; exact hK _ _ rfl (StB.refl _ _ _)
  · intro a w' K hB hd hs hK; have d72 : a.tmps.getD 72 undef = .pointer (some ⟨g4, 2, none⟩) := hd 7 rfl; clear hd hs; have hcell : w'.cell? ⟨g4, 2, none⟩ = some (.int .u8 (p8 ys 26)) := (World.cell?_of_block (a := ⟨g4, 2, none⟩) (hB.oth g4 hneg4)).trans cg42; go_simp; exact hK _ _ rfl (StB.refl _ _ _)
  · intro a w' K hB hd hs hK; have d73 : a.tmps.getD 73 undef = .int .u8 (p8 ys 26) := hd 8 rfl; clear hd hs; go_simp; first | exact hK _ _ rfl (StB.refl _ _ _) | exact hK _ _ (congrArg (Value.int .i64) (IntWalk.i64_in _ (by omega))) (StB.refl _ _ _)
  · intro a w' K hB hd hs hK; have d11 : a.tmps.getD 11 undef = .pointer (some ⟨g4, 0, none⟩) := hs 11 rfl; clear hd hs; go_simp; exact hK _ _ rfl (StB.refl _ _ _)
  · intro a w' K hB hd hs hK; have d75 : a.tmps.getD 75 undef = .pointer (some ⟨g4, 0, none⟩) := hd 10 rfl; clear hd hs; go_simp; exact hK _ _ rfl (StB.refl _ _ _)
  · intro a w' K hB hd hs hK; have d76 : a.tmps.getD 76 undef = .pointer (some ⟨g4, 0, none⟩) := hd 11 rfl; clear hd hs; go_simp; exact hK _ _ rfl (StB.refl _ _ _)
  · intro a w' K hB hd hs hK; have d77 : a.tmps.getD 77 undef = .pointer (some ⟨g4, 3, none⟩) := hd 12 rfl; clear hd hs; have hcell : w'.cell? ⟨g4, 3, none⟩ = some (.int .u8 41) := (World.cell?_of_block (a := ⟨g4, 3, none⟩) (hB.oth g4 hneg4)).trans cg43; go_simp; exact hK _ _ rfl (StB.refl _ _ _)
  · intro a w' K hB hd hs hK; have d78 : a.tmps.getD 78 undef = .int .u8 41 := hd 13 rfl; clear hd hs; go_simp; first | exact hK _ _ rfl (StB.refl _ _ _) | exact hK _ _ (congrArg (Value.int .i64) (IntWalk.i64_in _ (by omega))) (StB.refl _ _ _)
  · intro a w' K hB hd hs hK; have d11 : a.tmps.getD 11 undef = .pointer (some ⟨g4, 0, none⟩) := hs 11 rfl; clear hd hs; go_simp; exact hK _ _ rfl (StB.refl _ _ _)
  · intro a w' K hB hd hs hK; have d80 : a.tmps.getD 80 undef = .pointer (some ⟨g4, 0, none⟩) := hd 15 rfl; clear hd hs; go_simp; exact hK _ _ rfl (StB.refl _ _ _)
  · intro a w' K hB hd hs hK; have d81 : a.tmps.getD 81 undef = .pointer (some ⟨g4, 0, none⟩) := hd 16 rfl; clear hd hs; go_simp; exact hK _ _ rfl (StB.refl _ _ _)
  · intro a w' K hB hd hs hK; have d82 : a.tmps.getD 82 undef = .pointer (some ⟨g4, 4, none⟩) := hd 17 rfl; clear hd hs; have hcell : w'.cell? ⟨g4, 4, none⟩ = some (.int .u32 (p32 ys 28)) := (World.cell?_of_block (a := ⟨g4, 4, none⟩) (hB.oth g4 hneg4)).trans cg44; go_simp; exact hK _ _ rfl (StB.refl _ _ _)
  · intro a w' K hB hd hs hK; have d83 : a.tmps.getD 83 undef = .int .u32 (p32 ys 28) := hd 18 rfl; clear hd hs; go_simp; first | exact hK _ _ rfl (StB.refl _ _ _) | exact hK _ _ (congrArg (Value.int .i64) (IntWalk.i64_in _ (by omega))) (StB.refl _ _ _)
  · intro a w' K hB hd hs hK; have d11 : a.tmps.getD 11 undef = .pointer (some ⟨g4, 0, none⟩) := hs 11 rfl; clear hd hs; go_simp; exact hK _ _ rfl (StB.refl _ _ _)
  · intro a w' K hB hd hs hK; have d85 : a.tmps.getD 85 undef = .pointer (some ⟨g4, 0, none⟩) := hd 20 rfl; clear hd hs; go_simp; exact hK _ _ rfl (StB.refl _ _ _)
  · intro a w' K hB hd hs hK; have d86 : a.tmps.getD 86 undef = .pointer (some ⟨g4, 0, none⟩) := hd 21 rfl; clear hd hs; go_simp; exact hK _ _ rfl (StB.refl _ _ _)
  · intro a w' K hB hd hs hK; have d87 : a.tmps.getD 87 undef = .pointer (some ⟨g4, 5, none⟩) := hd 22 rfl; clear hd hs; have hcell : w'.cell? ⟨g4, 5, none⟩ = some (.string (strOfNums (trimL (subL ys 32 11)))) := (World.cell?_of_block (a := ⟨g4, 5, none⟩) (hB.oth g4 hneg4)).trans cg45; go_simp; exact hK _ _ rfl (StB.refl _ _ _)
  · intro a w' K hB hd hs hK; have d11 : a.tmps.getD 11 undef = .pointer (some ⟨g4, 0, none⟩) := hs 11 rfl; clear hd hs; go_simp; exact hK _ _ rfl (StB.refl _ _ _)
  · intro a w' K hB hd hs hK; have d89 : a.tmps.getD 89 undef = .pointer (some ⟨g4, 0, none⟩) := hd 24 rfl; clear hd hs; go_simp; exact hK _ _ rfl (StB.refl _ _ _)
  · intro a w' K hB hd hs hK; have d90 : a.tmps.getD 90 undef = .pointer (some ⟨g4, 0, none⟩) := hd 25 rfl; clear hd hs; go_simp; exact hK _ _ rfl (StB.refl _ _ _)
  · intro a w' K hB hd hs hK; have d91 : a.tmps.getD 91 undef = .pointer (some ⟨g4, 6, none⟩) := hd 26 rfl; clear hd hs; have hcell : w'.cell? ⟨g4, 6, none⟩ = some (.string (strOfNums (trimL (subL ys 43 8)))) := (World.cell?_of_block (a := ⟨g4, 6, none⟩) (hB.oth g4 hneg4)).trans cg46; go_simp; exact hK _ _ rfl (StB.refl _ _ _)
  · intro a w' K hB hd hs hK; have d4 : a.tmps.getD 4 undef = .pointer (some ⟨g0, 0, none⟩) := hs 4 rfl; clear hd hs; go_simp; exact hK _ _ rfl (StB.refl _ _ _)
  · intro a w' K hB hd hs hK; have d69 : a.tmps.getD 69 undef = .int .i64 (p8 ys 25) := hd 4 rfl; have d93 : a.tmps.getD 93 undef = .pointer (some ⟨g0, 13, none⟩) := hd 28 rfl; clear hd hs; obtain ⟨u, hu⟩ : ∃ u, w'.cell? ⟨g0, 13, none⟩ = some u := ⟨_, (cell_blkD 13 (by rw [hB.sz, hz0]; omega)).trans (Array.getElem?_eq_getElem (by rw [hB.sz, hz0]; omega))⟩; have hfz : w'.frozen? ⟨g0, 13, none⟩ = false := frozen_blkD 13 (by rw [hB.sz, hz0]; omega); go_simp; exact hK undef _ ⟨_, rfl, by rw [blkD_setCell_same]; simp [hB.sz, hz0]⟩ (StB.set rfl (by rw [hB.sz, hz0]; omega))
  · intro a w' K hB hd hs hK; have d4 : a.tmps.getD 4 undef = .pointer (some ⟨g0, 0, none⟩) := hs 4 rfl; clear hd hs; go_simp; exact hK _ _ rfl (StB.refl _ _ _)
  · intro a w' K hB hd hs hK; have d74 : a.tmps.getD 74 undef = .int .i64 (p8 ys 26) := hd 9 rfl; have d94 : a.tmps.getD 94 undef = .pointer (some ⟨g0, 14, none⟩) := hd 30 rfl; clear hd hs; obtain ⟨u, hu⟩ : ∃ u, w'.cell? ⟨g0, 14, none⟩ = some u := ⟨_, (cell_blkD 14 (by rw [hB.sz, hz0]; omega)).trans (Array.getElem?_eq_getElem (by rw [hB.sz, hz0]; omega))⟩; have hfz : w'.frozen? ⟨g0, 14, none⟩ = false := frozen_blkD 14 (by rw [hB.sz, hz0]; omega); go_simp; exact hK undef _ ⟨_, rfl, by rw [blkD_setCell_same]; simp [hB.sz, hz0]⟩ (StB.set rfl (by rw [hB.sz, hz0]; omega))
  · intro a w' K hB hd hs hK; have d4 : a.tmps.getD 4 undef = .pointer (some ⟨g0, 0, none⟩) := hs 4 rfl; clear hd hs; go_simp; exact hK _ _ rfl (StB.refl _ _ _)
  · intro a w' K hB hd hs hK; have d79 : a.tmps.getD 79 undef = .int .i64 41 := hd 14 rfl; have d95 : a.tmps.getD 95 undef = .pointer (some ⟨g0, 15, none⟩) := hd 32 rfl; clear hd hs; obtain ⟨u, hu⟩ : ∃ u, w'.cell? ⟨g0, 15, none⟩ = some u := ⟨_, (cell_blkD 15 (by rw [hB.sz, hz0]; omega)).trans (Array.getElem?_eq_getElem (by rw [hB.sz, hz0]; omega))⟩; have hfz : w'.frozen? ⟨g0, 15, none⟩ = false := frozen_blkD 15 (by rw [hB.sz, hz0]; omega); go_simp; exact hK undef _ ⟨_, rfl, by rw [blkD_setCell_same]; simp [hB.sz, hz0]⟩ (StB.set rfl (by rw [hB.sz, hz0]; omega))
  · intro a w' K hB hd hs hK; have d4 : a.tmps.getD 4 undef = .pointer (some ⟨g0, 0, none⟩) := hs 4 rfl; clear hd hs; go_simp; exact hK _ _ rfl (StB.refl _ _ _)
  · intro a w' K hB hd hs hK; have d84 : a.tmps.getD 84 undef = .int .i64 (p32 ys 28) := hd 19 rfl; have d96 : a.tmps.getD 96 undef = .pointer (some ⟨g0, 16, none⟩) := hd 34 rfl; clear hd hs; obtain ⟨u, hu⟩ : ∃ u, w'.cell? ⟨g0, 16, none⟩ = some u := ⟨_, (cell_blkD 16 (by rw [hB.sz, hz0]; omega)).trans (Array.getElem?_eq_getElem (by rw [hB.sz, hz0]; omega))⟩; have hfz : w'.frozen? ⟨g0, 16, none⟩ = false := frozen_blkD 16 (by rw [hB.sz, hz0]; omega); go_simp; exact hK undef _ ⟨_, rfl, by rw [blkD_setCell_same]; simp [hB.sz, hz0]⟩ (StB.set rfl (by rw [hB.sz, hz0]; omega))
  · intro a w' K hB hd hs hK; have d4 : a.tmps.getD 4 undef = .pointer (some ⟨g0, 0, none⟩) := hs 4 rfl; clear hd hs; go_simp; exact hK _ _ rfl (StB.refl _ _ _)
  · intro a w' K hB hd hs hK; have d88 : a.tmps.getD 88 undef = .string (strOfNums (trimL (subL ys 32 11))) := hd 23 rfl; have d97 : a.tmps.getD 97 undef = .pointer (some ⟨g0, 17, none⟩) := hd 36 rfl; clear hd hs; obtain ⟨u, hu⟩ : ∃ u, w'.cell? ⟨g0, 17, none⟩ = some u := ⟨_, (cell_blkD 17 (by rw [hB.sz, hz0]; omega)).trans (Array.getElem?_eq_getElem (by rw [hB.sz, hz0]; omega))⟩; have hfz : w'.frozen? ⟨g0, 17, none⟩ = false := frozen_blkD 17 (by rw [hB.sz, hz0]; omega); go_simp; exact hK undef _ ⟨_, rfl, by rw [blkD_setCell_same]; simp [hB.sz, hz0]⟩ (StB.set rfl (by rw [hB.sz, hz0]; omega))
  · intro a w' K hB hd hs hK; have d4 : a.tmps.getD 4 undef = .pointer (some ⟨g0, 0, none⟩) := hs 4 rfl; clear hd hs; go_simp; exact hK _ _ rfl (StB.refl _ _ _)
  · intro a w' K hB hd hs hK; have d92 : a.tmps.getD 92 undef = .string (strOfNums (trimL (subL ys 43 8))) := hd 27 rfl; have d98 : a.tmps.getD 98 undef = .pointer (some ⟨g0, 18, none⟩) := hd 38 rfl; clear hd hs; obtain ⟨u, hu⟩ : ∃ u, w'.cell? ⟨g0, 18, none⟩ = some u := ⟨_, (cell_blkD 18 (by rw [hB.sz, hz0]; omega)).trans (Array.getElem?_eq_getElem (by rw [hB.sz, hz0]; omega))⟩; have hfz : w'.frozen? ⟨g0, 18, none⟩ = false := frozen_blkD 18 (by rw [hB.sz, hz0]; omega); go_simp; exact hK undef _ ⟨_, rfl, by rw [blkD_setCell_same]; simp [hB.sz, hz0]⟩ (StB.set rfl (by rw [hB.sz, hz0]; omega))
  · intro a W8 hB8 hsz hdf hf hs
    have q13 : (blkD W8 g0)[13]? = some (.int .i64 (p8 ys 25)) := by obtain ⟨x, hx, hc⟩ := hf 29 rfl; cases hx; exact hc
    have q14 : (blkD W8 g0)[14]? = some (.int .i64 (p8 ys 26)) := by obtain ⟨x, hx, hc⟩ := hf 31 rfl; cases hx; exact hc
    have q15 : (blkD W8 g0)[15]? = some (.int .i64 41) := by obtain ⟨x, hx, hc⟩ := hf 33 rfl; cases hx; exact hc
    have q16 : (blkD W8 g0)[16]? = some (.int .i64 (p32 ys 28)) := by obtain ⟨x, hx, hc⟩ := hf 35 rfl; cases hx; exact hc
    have q17 : (blkD W8 g0)[17]? = some (.string (strOfNums (trimL (subL ys 32 11)))) := by obtain ⟨x, hx, hc⟩ := hf 37 rfl; cases hx; exact hc
    have q18 : (blkD W8 g0)[18]? = some (.string (strOfNums (trimL (subL ys 43 8)))) := by obtain ⟨x, hx, hc⟩ := hf 39 rfl; cases hx; exact hc
    have hact : a = ⟨#[.int .i64 40, .string (strOfNums ys), sl a 2, sl a 3, .pointer (some ⟨g0, 0, none⟩), .int .i64 0, .bool false, sl a 7, sl a 8, sl a 9, sl a 10, .pointer (some ⟨g4, 0, none⟩), .int .i64 51, sl a 13, sl a 14, sl a 15, sl a 16, sl a 17, sl a 18, sl a 19, sl a 20, sl a 21, sl a 22, sl a 23, sl a 24, sl a 25, sl a 26, sl a 27, sl a 28, sl a 29, sl a 30, sl a 31, sl a 32, sl a 33, sl a 34, sl a 35, sl a 36, sl a 37, sl a 38, sl a 39, sl a 40, sl a 41, sl a 42, sl a 43, sl a 44, sl a 45, sl a 46, sl a 47, sl a 48, sl a 49, sl a 50, sl a 51, sl a 52, sl a 53, sl a 54, sl a 55, sl a 56, sl a 57, sl a 58, sl a 59, sl a 60, sl a 61, sl a 62, sl a 63, sl a 64, sl a 65, sl a 66, sl a 67, sl a 68, sl a 69, sl a 70, sl a 71, sl a 72, sl a 73, sl a 74, sl a 75, sl a 76, sl a 77, sl a 78, sl a 79, sl a 80, sl a 81, sl a 82, sl a 83, sl a 84, sl a 85, sl a 86, sl a 87, sl a 88, sl a 89, sl a 90, sl a 91, sl a 92, sl a 93, sl a 94, sl a 95, sl a 96, sl a 97, sl a 98, sl a 99, sl a 100, sl a 101, sl a 102, sl a 103], []⟩ := act_of (by rw [hsz]; rfl) hdf ⟨hs 0 rfl, hs 1 rfl, rfl, rfl, hs 4 rfl, hs 5 rfl, hs 6 rfl, rfl, rfl, rfl, rfl, hs 11 rfl, hs 12 rfl, rfl, rfl, rfl, rfl, rfl, rfl, rfl, rfl, rfl, rfl, rfl, rfl, rfl, rfl, rfl, rfl, rfl, rfl, rfl, rfl, rfl, rfl, rfl, rfl, rfl, rfl, rfl, rfl, rfl, rfl, rfl, rfl, rfl, rfl, rfl, rfl, rfl, rfl, rfl, rfl, rfl, rfl, rfl, rfl, rfl, rfl, rfl, rfl, rfl, rfl, rfl, rfl, rfl, rfl, rfl, rfl, rfl, rfl, rfl, rfl, rfl, rfl, rfl, rfl, rfl, rfl, rfl, rfl, rfl, rfl, rfl, rfl, rfl, rfl, rfl, rfl, rfl, rfl, rfl, rfl, rfl, rfl, rfl, rfl, rfl, rfl, rfl, rfl, rfl, rfl, rfl, trivial⟩
    clear hsz hdf hf hs
    rw [hact]
    clear hact
    have hall4 : blkD W8 g0 = #[.int .i64 40, .int .i64 (512), .int .i64 (p8 ys 2), .int .i64 (p16 ys 3), .int .i64 (p8 ys 5), .int .i64 (p16 ys 6), .int .i64 (p16 ys 8), .int .i64 (p8 ys 10), .int .i64 (p16 ys 11), .int .i64 (p16 ys 13), .int .i64 (p16 ys 15), .int .i64 (p32 ys 17), .int .i64 (p32 ys 21), .int .i64 (p8 ys 25), .int .i64 (p8 ys 26), .int .i64 41, .int .i64 (p32 ys 28), .string (strOfNums (trimL (subL ys 32 11))), .string (strOfNums (trimL (subL ys 43 8)))] := hB8.all HALL.out (by
      intro i x hx
      rcases (show i = 0 ∨ i = 1 ∨ i = 2 ∨ i = 3 ∨ i = 4 ∨ i = 5 ∨ i = 6 ∨ i = 7 ∨ i = 8 ∨ i = 9 ∨ i = 10 ∨ i = 11 ∨ i = 12 ∨ i = 13 ∨ i = 14 ∨ i = 15 ∨ i = 16 ∨ i = 17 ∨ i = 18 ∨ 19 ≤ i from by omega) with rfl | rfl | rfl | rfl | rfl | rfl | rfl | rfl | rfl | rfl | rfl | rfl | rfl | rfl | rfl | rfl | rfl | rfl | rfl | hi
      · cases hx
      · cases hx
      · cases hx
      · cases hx
      · cases hx
      · cases hx
      · cases hx
      · cases hx
      · cases hx
      · cases hx
      · cases hx
      · cases hx
      · cases hx
      · cases hx; exact q13
      · cases hx; exact q14
      · cases hx; exact q15
      · cases hx; exact q16
      · cases hx; exact q17
      · cases hx; exact q18
      · rw [List.getD_eq_getElem?_getD, List.getElem?_eq_none (by simpa using hi)] at hx; cases hx) rfl (by
      intro i hi
      have hi' : i < 19 := hi
      rcases (show i = 0 ∨ i = 1 ∨ i = 2 ∨ i = 3 ∨ i = 4 ∨ i = 5 ∨ i = 6 ∨ i = 7 ∨ i = 8 ∨ i = 9 ∨ i = 10 ∨ i = 11 ∨ i = 12 ∨ i = 13 ∨ i = 14 ∨ i = 15 ∨ i = 16 ∨ i = 17 ∨ i = 18 from by omega) with rfl | rfl | rfl | rfl | rfl | rfl | rfl | rfl | rfl | rfl | rfl | rfl | rfl | rfl | rfl | rfl | rfl | rfl | rfl
      all_goals rfl)
    have hz8 : (blkD W8 g0).size = 19 := by rw [hall4]; rfl
    have HB8 := Lib.hid hB8
    clear hB8 hz0 q13 q14 q15 q16 q17 q18
    go_wp2_with fail
    refine bodyPost_ret (results_br _ _ g0 #[.int .i64 40, .int .i64 (512), .int .i64 (p8 ys 2), .int .i64 (p16 ys 3), .int .i64 (p8 ys 5), .int .i64 (p16 ys 6), .int .i64 (p16 ys 8), .int .i64 (p8 ys 10), .int .i64 (p16 ys 11), .int .i64 (p16 ys 13), .int .i64 (p16 ys 15), .int .i64 (p32 ys 17), .int .i64 (p32 ys 21), .int .i64 (p8 ys 25), .int .i64 (p8 ys 26), .int .i64 41, .int .i64 (p32 ys 28), .string (strOfNums (trimL (subL ys 32 11))), .string (strOfNums (trimL (subL ys 43 8)))] (by rfl) (blkD_setRow_same _ _ _ (by rw [hall4]; exact Nat.succ_pos _)) rfl) rfl ⟨rfl, ?_⟩
    exact below_setRow (HB8.out.below (HBEL.out w.heap.size (Nat.le_refl _)) (by rw [HG00.out]; exact Nat.le_refl _)) (by rw [HG00.out]; exact Nat.le_refl _) _
end Go.Proofs.Yteklgajjclldkaa
