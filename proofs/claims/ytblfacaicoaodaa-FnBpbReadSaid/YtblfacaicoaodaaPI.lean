/- Walk of the law FnBpbRead. -/
import Derived.Test.YtblfacaicoaodaaPH
import Derived.Test.YtblfacaicoaodaaPQ
import Derived.Deep.DeepCutAuto
namespace Go.Proofs.Ytblfacaicoaodaa
open Go.RowKit
attribute [local go_sem ↓] Go.wp_at_zero Go.wp_at_succ
set_option linter.unusedVariables false

theorem law_big (n : Int) (s : ByteArray) (w : World) (hs : (s.size : Int) > 2147483647) : Calls Try.prog 3 #[.int .u8 n, .string s] w fun e w' => e = .returned (.bool true) ∧ Below w.heap.size w w' := by
  go_enter Try.func3, Try.ntmps3
  go_wp2_with fail
  go_ret
  exact ⟨rfl, Below.refl _ _⟩
theorem subL_all {ys : List Int} {n : Nat} (h : ys.length = n) : subL ys 0 n = ys := by simp [subL, ← h]
theorem conv_all {w : World} {g : Nat} {ys : List Int} (hS : Bys w g ys) (n : Nat) (hn : 0 < n) (h : ys.length = n) :
    (convert 24 9 (.slice (some ⟨g, 0, none⟩) n n)).run Try.prog w = .ok (.string (strOfNums ys)) w := by
  have := conv_sub hS 0 n n hn (by omega)
  rw [subL_all h] at this
  exact this
theorem below_undrew {B : Nat} {a z : World} (h : Below B a.drew z) : Below B a z := ⟨h.os, h.tape, h.output, h.size, h.block⟩
theorem getD_set_ne2 (ys : List Int) (i j : Nat) (x : Int) (h : i ≠ j) : (ys.set i x).getD j 0 = ys.getD j 0 := by
  rw [List.getD_eq_getElem?_getD, List.getD_eq_getElem?_getD, List.getElem?_set, if_neg h]
theorem trim_sub {ys : List Int} {o n : Nat} (h : o + n ≤ ys.length) (hn : 0 < n) (hx : ys.getD (o + (n - 1)) 0 ≠ 32) : trimL (subL ys o n) = subL ys o n := by
  have hl := subL_len h
  have e : (subL ys o n).take (n - 1 + 1) = subL ys o n := List.take_of_length_le (by omega)
  have h9 := trimL_last (zs := subL ys o n) (k := n - 1) (by omega) (by rw [subL_at (by omega)]; exact hx)
  rwa [e] at h9
theorem u8x {y : Int} (h0 : 0 ≤ y) (h1 : y < 256) : IntKind.u8.wrap (65 + y.tmod 26) = 65 + y % 26 := by
  rw [Int.tmod_eq_emod_of_nonneg h0, IntKind.wrap_u8]
  omega
theorem byteRow_set (ys : List Int) (k : Nat) (x : Int) : (byteRow ys).setIfInBounds k (.int .u8 x) = byteRow (ys.set k x) := by
  apply Array.ext'
  simp [byteRow, List.map_set]
theorem row_at {w : World} {g : Nat} {ys : List Int} (h : w.heap[g]? = some (.cells (byteRow ys) 5 (0, 0))) (k : Nat) (hk : k < ys.length) : w.cell? ⟨g, k, none⟩ = some (.int .u8 (ys.getD k 0)) := bys_row h k hk
theorem row_set {w : World} {g : Nat} {ys : List Int} (h : w.heap[g]? = some (.cells (byteRow ys) 5 (0, 0))) (k : Nat) (x : Int) : (w.setCell ⟨g, k, none⟩ (.int .u8 x)).heap[g]? = some (.cells (byteRow (ys.set k x)) 5 (0, 0)) := by
  rw [← byteRow_set]
  exact heap_setCell_same _ _ _ _ _ _ h

theorem kind_20 (n : Int) (w : World) (h0 : 0 ≤ n) (h1 : n ≤ 255) (h : n % 3 = 0) : Calls Try.prog 4 #[.int .u8 n] w fun e w' => e = .returned (.int .i64 20) ∧ Below w.heap.size w w' := by
  have hm : n.tmod 3 = 0 := by rw [Int.tmod_eq_emod_of_nonneg h0]; exact h
  go_enter Try.func4, Try.ntmps4
  go_wp2
  go_ret
  exact ⟨rfl, (Below.refl _ _).alloc (Nat.le_refl _) _⟩

theorem kind_331 (n : Int) (w : World) (h0 : 0 ≤ n) (h1 : n ≤ 255) (h : n % 3 = 1) : Calls Try.prog 4 #[.int .u8 n] w fun e w' => e = .returned (.int .i64 331) ∧ Below w.heap.size w w' := by
  have hm : n.tmod 3 = 1 := by rw [Int.tmod_eq_emod_of_nonneg h0]; exact h
  go_enter Try.func4, Try.ntmps4
  go_wp2
  go_ret
  exact ⟨rfl, (Below.refl _ _).alloc (Nat.le_refl _) _⟩

theorem kind_40 (n : Int) (w : World) (h0 : 0 ≤ n) (h1 : n ≤ 255) (h : n % 3 = 2) : Calls Try.prog 4 #[.int .u8 n] w fun e w' => e = .returned (.int .i64 40) ∧ Below w.heap.size w w' := by
  have hm : n.tmod 3 = 2 := by rw [Int.tmod_eq_emod_of_nonneg h0]; exact h
  go_enter Try.func4, Try.ntmps4
  go_wp2
  go_ret
  exact ⟨rfl, (Below.refl _ _).alloc (Nat.le_refl _) _⟩

set_option maxRecDepth 100000 in
set_option maxHeartbeats 4000000 in
theorem law20 (n : Int) (s : ByteArray) (w : World) (h0 : 0 ≤ n) (h1 : n ≤ 255) (h : n % 3 = 0) (hs : ¬ (s.size : Int) > 2147483647) : Calls Try.prog 3 #[.int .u8 n, .string s] w fun e w' => e = .returned (.bool true) ∧ Below w.heap.size w w' := by
  go_enter Try.func3, Try.ntmps3
  go_wp2_with fail
  refine (kind_20 n w h0 h1 h).mono ?_
  rintro e w1 ⟨rfl, hb1⟩
  obtain ⟨wa, wb, wc, ra, rb, rc, rl, hbc⟩ := map_sizes w1 20 13 (by simp)
  have hmm := @run_makeMap Try.prog
  have hmk : (Instr.makeSlice 24 (.int .i64 13) (.int .i64 13)).run Try.prog wc = .ok (.slice (some ⟨wc.heap.size, 0, none⟩) 13 13) (wc.alloc (.cells (byteRow (List.replicate 13 0)) 5)) := mk_byte 13 (by omega) wc
  obtain ⟨m, zs, hcp, hzl, hzB⟩ := copy_cut (wc.alloc (.cells (byteRow (List.replicate 13 0)) 5)) wc.heap.size 13 13 3 s (List.replicate 13 0) (heap_new rfl) (by simp) (byt_mem fun y hy => by obtain rfl := List.eq_of_mem_replicate hy; omega)
  obtain ⟨R0, hR0⟩ : ∃ R0, R0 = byteRow (List.replicate 13 0) := ⟨_, rfl⟩
  rw [← hR0] at hmk hcp
  have hbw : Below w.heap.size w wc := hb1.trans (hbc.mono hb1.size)
  have HBW := Lib.hid hbw
  have HZL := Lib.hid hzl
  have HZB := Lib.hid hzB
  clear hR0 hb1 hbc hbw hzl hzB
  go_upto_region 7 with (fail)
  obtain ⟨gb, hgb⟩ : ∃ gb, gb = wc.heap.size := ⟨_, rfl⟩
  obtain ⟨W7, hW7⟩ : ∃ W7, W7 = wc.alloc (.cells (byteRow zs) 5) := ⟨_, rfl⟩
  rw [← hW7, ← hgb]
  have hrow7 : W7.heap[gb]? = some (.cells (byteRow zs) 5 (0, 0)) := by
    rw [hW7, hgb]
    exact heap_new rfl
  have hbw7 : Below w.heap.size w W7 := by
    rw [hW7]
    exact HBW.out.alloc HBW.out.size _
  have hgw : w.heap.size ≤ gb := by
    rw [hgb]
    exact HBW.out.size
  clear hW7 hgb hmk hcp ra rb rc rl hmm
  have c0 := row_at hrow7 0 (by have := HZL.out; omega)
  have c1 := row_at hrow7 1 (by have := HZL.out; omega)
  have cf := fun i => frozen_of_row W7 gb i _ _ hrow7
  obtain ⟨ys, hys⟩ : ∃ ys, ys = (zs.set 0 0).set 1 2 := ⟨_, rfl⟩
  obtain ⟨W8, hW8⟩ : ∃ W8, W8 = (W7.setCell ⟨gb, 0, none⟩ (.int .u8 0)).setCell ⟨gb, 1, none⟩ (.int .u8 2) := ⟨_, rfl⟩
  have hrow8 : W8.heap[gb]? = some (.cells (byteRow ys) 5 (0, 0)) := by
    rw [hW8, hys]
    exact row_set (row_set hrow7 0 0) 1 2
  have hyl : ys.length = 13 := by rw [hys, List.length_set, List.length_set, HZL.out]
  have hyB : Byt ys := by rw [hys]; exact (HZB.out.put 0 (by omega)).put 1 (by omega)
  have h512 : p16 ys 0 = 512 := by
    have hz := HZL.out
    unfold p16
    rw [hys, List.getD_eq_getElem?_getD, List.getD_eq_getElem?_getD, List.getElem?_set, List.getElem?_set, List.getElem?_set]
    simp [hz]
  have hbw8 : Below w.heap.size w W8 := by
    rw [hW8]
    exact (hbw7.setCell (p := ⟨gb, 0, none⟩) hgw _).setCell (p := ⟨gb, 1, none⟩) hgw _
  have HROW8 := Lib.hid hrow8
  have HYL := Lib.hid hyl
  have HYB := Lib.hid hyB
  have HY := Lib.hid h512
  have HBW8 := Lib.hid hbw8
  have HW8 := Lib.hid hW8
  clear hrow7 hrow8 hyl hyB h512 hbw7 hbw8 hys hW8
  have hcv : (convert 24 9 (.slice (some ⟨gb, 0, none⟩) 13 13)).run Try.prog W8 = .ok (.string (strOfNums ys)) W8 := conv_all (bys_row HROW8.out) 13 (by omega) HYL.out
  rw [HW8.out] at hcv
  go_wp2_with fail
  rw [← HW8.out]
  refine (br20_any ys W8 HYB.out HYL.out HY.out).mono ?_
  rintro e w9 ⟨rfl, hb9⟩
  have hrow9 : w9.heap[gb]? = some (.cells (byteRow ys) 5 (0, 0)) := (hb9.block gb (Array.getElem?_eq_some_iff.1 HROW8.out).1).trans HROW8.out
  have hbw9 : Below w.heap.size w w9 := HBW8.out.trans (hb9.mono HBW8.out.size)
  have HROW9 := Lib.hid hrow9
  have HBW9 := Lib.hid hbw9
  clear hrow9 hbw9 hb9 hcv
  go_wp2_with fail
  obtain ⟨g9, hg9⟩ : ∃ g9, g9 = w9.heap.size := ⟨_, rfl⟩
  obtain ⟨WA, hWA⟩ : ∃ WA, WA = w9.alloc (.cells #[.int .i64 20, .int .i64 (512), .int .i64 (p8 ys 2), .int .i64 (p16 ys 3), .int .i64 (p8 ys 5), .int .i64 (p16 ys 6), .int .i64 (p16 ys 8), .int .i64 (p8 ys 10), .int .i64 (p16 ys 11), .int .i64 0, .int .i64 0, .int .i64 0, .int .i64 0, .int .i64 0, .int .i64 0, .int .i64 0, .int .i64 0, .string ⟨#[]⟩, .string ⟨#[]⟩] 26) := ⟨_, rfl⟩
  rw [← hWA, ← hg9]
  have hS : ∀ z, Below WA.heap.size WA z → blkD z g9 = #[.int .i64 20, .int .i64 (512), .int .i64 (p8 ys 2), .int .i64 (p16 ys 3), .int .i64 (p8 ys 5), .int .i64 (p16 ys 6), .int .i64 (p16 ys 8), .int .i64 (p8 ys 10), .int .i64 (p16 ys 11), .int .i64 0, .int .i64 0, .int .i64 0, .int .i64 0, .int .i64 0, .int .i64 0, .int .i64 0, .int .i64 0, .string ⟨#[]⟩, .string ⟨#[]⟩] ∧ (convert 24 9 (.slice (some ⟨gb, 0, none⟩) 13 13)).run Try.prog z = .ok (.string (strOfNums ys)) z := fun z hz => by
    have hrA : WA.heap[gb]? = some (.cells (byteRow ys) 5 (0, 0)) := by
      rw [hWA]
      exact (Below.heap_alloc _ _ _ (Array.getElem?_eq_some_iff.1 HROW9.out).1).trans HROW9.out
    refine ⟨(bblk hz g9 (by rw [hWA, hg9]; simp)).trans (by rw [hWA]; exact blkD_alloc_at _ _ _ _ hg9), conv_all (bys_row ((hz.block gb (Array.getElem?_eq_some_iff.1 hrA).1).trans hrA)) 13 (by omega) HYL.out⟩
  have hbwA : Below w.heap.size w WA := by
    rw [hWA]
    exact HBW9.out.alloc HBW9.out.size _
  have HSS := Lib.hid hS
  have HBWA := Lib.hid hbwA
  clear hS hbwA hWA hg9
  go_region_held3 (fun z => blkD z g9 = #[.int .i64 20, .int .i64 (512), .int .i64 (p8 ys 2), .int .i64 (p16 ys 3), .int .i64 (p8 ys 5), .int .i64 (p16 ys 6), .int .i64 (p16 ys 8), .int .i64 (p8 ys 10), .int .i64 (p16 ys 11), .int .i64 0, .int .i64 0, .int .i64 0, .int .i64 0, .int .i64 0, .int .i64 0, .int .i64 0, .int .i64 0, .string ⟨#[]⟩, .string ⟨#[]⟩] ∧ (convert 24 9 (.slice (some ⟨gb, 0, none⟩) 13 13)).run Try.prog z = .ok (.string (strOfNums ys)) z)
    (first | exact HSS.out _ (Below.refl _ _) | exact HSS.out _ (Below.refl _ _).drew | exact HSS.out _ (below_undrew hbz) | exact HSS.out _ (below_undrew hbz).drew)
    (first | (go_at_call 6; refine (sbr20_any ys _ HYB.out HYL.out HY.out).mono ?_; rintro e z2 ⟨rfl, hbz⟩))
  go_wp2
  go_ret
  exact ⟨rfl, HBWA.out.trans ((below_undrew hbz).mono HBWA.out.size)⟩


set_option maxRecDepth 100000 in
set_option maxHeartbeats 4000000 in
theorem law331 (n : Int) (s : ByteArray) (w : World) (h0 : 0 ≤ n) (h1 : n ≤ 255) (h : n % 3 = 1) (hs : ¬ (s.size : Int) > 2147483647) : Calls Try.prog 3 #[.int .u8 n, .string s] w fun e w' => e = .returned (.bool true) ∧ Below w.heap.size w w' := by
  go_enter Try.func3, Try.ntmps3
  go_wp2_with fail
  refine (kind_331 n w h0 h1 h).mono ?_
  rintro e w1 ⟨rfl, hb1⟩
  obtain ⟨wa, wb, wc, ra, rb, rc, rl, hbc⟩ := map_sizes w1 331 25 (by simp)
  have hmm := @run_makeMap Try.prog
  have hmk : (Instr.makeSlice 24 (.int .i64 25) (.int .i64 25)).run Try.prog wc = .ok (.slice (some ⟨wc.heap.size, 0, none⟩) 25 25) (wc.alloc (.cells (byteRow (List.replicate 25 0)) 5)) := mk_byte 25 (by omega) wc
  obtain ⟨m, zs, hcp, hzl, hzB⟩ := copy_cut (wc.alloc (.cells (byteRow (List.replicate 25 0)) 5)) wc.heap.size 25 25 3 s (List.replicate 25 0) (heap_new rfl) (by simp) (byt_mem fun y hy => by obtain rfl := List.eq_of_mem_replicate hy; omega)
  obtain ⟨R0, hR0⟩ : ∃ R0, R0 = byteRow (List.replicate 25 0) := ⟨_, rfl⟩
  rw [← hR0] at hmk hcp
  have hbw : Below w.heap.size w wc := hb1.trans (hbc.mono hb1.size)
  have HBW := Lib.hid hbw
  have HZL := Lib.hid hzl
  have HZB := Lib.hid hzB
  clear hR0 hb1 hbc hbw hzl hzB
  go_upto_region 7 with (fail)
  obtain ⟨gb, hgb⟩ : ∃ gb, gb = wc.heap.size := ⟨_, rfl⟩
  obtain ⟨W7, hW7⟩ : ∃ W7, W7 = wc.alloc (.cells (byteRow zs) 5) := ⟨_, rfl⟩
  rw [← hW7, ← hgb]
  have hrow7 : W7.heap[gb]? = some (.cells (byteRow zs) 5 (0, 0)) := by
    rw [hW7, hgb]
    exact heap_new rfl
  have hbw7 : Below w.heap.size w W7 := by
    rw [hW7]
    exact HBW.out.alloc HBW.out.size _
  have hgw : w.heap.size ≤ gb := by
    rw [hgb]
    exact HBW.out.size
  clear hW7 hgb hmk hcp ra rb rc rl hmm
  have c0 := row_at hrow7 0 (by have := HZL.out; omega)
  have c1 := row_at hrow7 1 (by have := HZL.out; omega)
  have cf := fun i => frozen_of_row W7 gb i _ _ hrow7
  obtain ⟨ys, hys⟩ : ∃ ys, ys = (zs.set 0 0).set 1 2 := ⟨_, rfl⟩
  obtain ⟨W8, hW8⟩ : ∃ W8, W8 = (W7.setCell ⟨gb, 0, none⟩ (.int .u8 0)).setCell ⟨gb, 1, none⟩ (.int .u8 2) := ⟨_, rfl⟩
  have hrow8 : W8.heap[gb]? = some (.cells (byteRow ys) 5 (0, 0)) := by
    rw [hW8, hys]
    exact row_set (row_set hrow7 0 0) 1 2
  have hyl : ys.length = 25 := by rw [hys, List.length_set, List.length_set, HZL.out]
  have hyB : Byt ys := by rw [hys]; exact (HZB.out.put 0 (by omega)).put 1 (by omega)
  have h512 : p16 ys 0 = 512 := by
    have hz := HZL.out
    unfold p16
    rw [hys, List.getD_eq_getElem?_getD, List.getD_eq_getElem?_getD, List.getElem?_set, List.getElem?_set, List.getElem?_set]
    simp [hz]
  have hbw8 : Below w.heap.size w W8 := by
    rw [hW8]
    exact (hbw7.setCell (p := ⟨gb, 0, none⟩) hgw _).setCell (p := ⟨gb, 1, none⟩) hgw _
  have HROW8 := Lib.hid hrow8
  have HYL := Lib.hid hyl
  have HYB := Lib.hid hyB
  have HY := Lib.hid h512
  have HBW8 := Lib.hid hbw8
  have HW8 := Lib.hid hW8
  clear hrow7 hrow8 hyl hyB h512 hbw7 hbw8 hys hW8
  have hcv : (convert 24 9 (.slice (some ⟨gb, 0, none⟩) 25 25)).run Try.prog W8 = .ok (.string (strOfNums ys)) W8 := conv_all (bys_row HROW8.out) 25 (by omega) HYL.out
  rw [HW8.out] at hcv
  go_wp2_with fail
  rw [← HW8.out]
  refine (br331_any ys W8 HYB.out HYL.out HY.out).mono ?_
  rintro e w9 ⟨rfl, hb9⟩
  have hrow9 : w9.heap[gb]? = some (.cells (byteRow ys) 5 (0, 0)) := (hb9.block gb (Array.getElem?_eq_some_iff.1 HROW8.out).1).trans HROW8.out
  have hbw9 : Below w.heap.size w w9 := HBW8.out.trans (hb9.mono HBW8.out.size)
  have HROW9 := Lib.hid hrow9
  have HBW9 := Lib.hid hbw9
  clear hrow9 hbw9 hb9 hcv
  go_wp2_with fail
  obtain ⟨g9, hg9⟩ : ∃ g9, g9 = w9.heap.size := ⟨_, rfl⟩
  obtain ⟨WA, hWA⟩ : ∃ WA, WA = w9.alloc (.cells #[.int .i64 331, .int .i64 (512), .int .i64 (p8 ys 2), .int .i64 (p16 ys 3), .int .i64 (p8 ys 5), .int .i64 (p16 ys 6), .int .i64 (p16 ys 8), .int .i64 (p8 ys 10), .int .i64 (p16 ys 11), .int .i64 (p16 ys 13), .int .i64 (p16 ys 15), .int .i64 (p32 ys 17), .int .i64 (p32 ys 21), .int .i64 0, .int .i64 0, .int .i64 0, .int .i64 0, .string ⟨#[]⟩, .string ⟨#[]⟩] 26) := ⟨_, rfl⟩
  rw [← hWA, ← hg9]
  have hS : ∀ z, Below WA.heap.size WA z → blkD z g9 = #[.int .i64 331, .int .i64 (512), .int .i64 (p8 ys 2), .int .i64 (p16 ys 3), .int .i64 (p8 ys 5), .int .i64 (p16 ys 6), .int .i64 (p16 ys 8), .int .i64 (p8 ys 10), .int .i64 (p16 ys 11), .int .i64 (p16 ys 13), .int .i64 (p16 ys 15), .int .i64 (p32 ys 17), .int .i64 (p32 ys 21), .int .i64 0, .int .i64 0, .int .i64 0, .int .i64 0, .string ⟨#[]⟩, .string ⟨#[]⟩] ∧ (convert 24 9 (.slice (some ⟨gb, 0, none⟩) 25 25)).run Try.prog z = .ok (.string (strOfNums ys)) z := fun z hz => by
    have hrA : WA.heap[gb]? = some (.cells (byteRow ys) 5 (0, 0)) := by
      rw [hWA]
      exact (Below.heap_alloc _ _ _ (Array.getElem?_eq_some_iff.1 HROW9.out).1).trans HROW9.out
    refine ⟨(bblk hz g9 (by rw [hWA, hg9]; simp)).trans (by rw [hWA]; exact blkD_alloc_at _ _ _ _ hg9), conv_all (bys_row ((hz.block gb (Array.getElem?_eq_some_iff.1 hrA).1).trans hrA)) 25 (by omega) HYL.out⟩
  have hbwA : Below w.heap.size w WA := by
    rw [hWA]
    exact HBW9.out.alloc HBW9.out.size _
  have HSS := Lib.hid hS
  have HBWA := Lib.hid hbwA
  clear hS hbwA hWA hg9
  go_region_held3 (fun z => blkD z g9 = #[.int .i64 331, .int .i64 (512), .int .i64 (p8 ys 2), .int .i64 (p16 ys 3), .int .i64 (p8 ys 5), .int .i64 (p16 ys 6), .int .i64 (p16 ys 8), .int .i64 (p8 ys 10), .int .i64 (p16 ys 11), .int .i64 (p16 ys 13), .int .i64 (p16 ys 15), .int .i64 (p32 ys 17), .int .i64 (p32 ys 21), .int .i64 0, .int .i64 0, .int .i64 0, .int .i64 0, .string ⟨#[]⟩, .string ⟨#[]⟩] ∧ (convert 24 9 (.slice (some ⟨gb, 0, none⟩) 25 25)).run Try.prog z = .ok (.string (strOfNums ys)) z)
    (first | exact HSS.out _ (Below.refl _ _) | exact HSS.out _ (Below.refl _ _).drew | exact HSS.out _ (below_undrew hbz) | exact HSS.out _ (below_undrew hbz).drew)
    (first | (go_at_call 6; refine (sbr331_any ys _ HYB.out HYL.out HY.out).mono ?_; rintro e z2 ⟨rfl, hbz⟩))
  go_wp2
  go_ret
  exact ⟨rfl, HBWA.out.trans ((below_undrew hbz).mono HBWA.out.size)⟩


set_option maxRecDepth 100000 in
set_option maxHeartbeats 4000000 in
theorem law40 (n : Int) (s : ByteArray) (w : World) (h0 : 0 ≤ n) (h1 : n ≤ 255) (h : n % 3 = 2) (hs : ¬ (s.size : Int) > 2147483647) : Calls Try.prog 3 #[.int .u8 n, .string s] w fun e w' => e = .returned (.bool true) ∧ Below w.heap.size w w' := by
  go_enter Try.func3, Try.ntmps3
  go_wp2_with fail
  refine (kind_40 n w h0 h1 h).mono ?_
  rintro e w1 ⟨rfl, hb1⟩
  obtain ⟨wa, wb, wc, ra, rb, rc, rl, hbc⟩ := map_sizes w1 40 51 (by simp)
  have hmm := @run_makeMap Try.prog
  have hmk : (Instr.makeSlice 24 (.int .i64 51) (.int .i64 51)).run Try.prog wc = .ok (.slice (some ⟨wc.heap.size, 0, none⟩) 51 51) (wc.alloc (.cells (byteRow (List.replicate 51 0)) 5)) := mk_byte 51 (by omega) wc
  obtain ⟨m, zs, hcp, hzl, hzB⟩ := copy_cut (wc.alloc (.cells (byteRow (List.replicate 51 0)) 5)) wc.heap.size 51 51 3 s (List.replicate 51 0) (heap_new rfl) (by simp) (byt_mem fun y hy => by obtain rfl := List.eq_of_mem_replicate hy; omega)
  obtain ⟨R0, hR0⟩ : ∃ R0, R0 = byteRow (List.replicate 51 0) := ⟨_, rfl⟩
  rw [← hR0] at hmk hcp
  have hbw : Below w.heap.size w wc := hb1.trans (hbc.mono hb1.size)
  have HBW := Lib.hid hbw
  have HZL := Lib.hid hzl
  have HZB := Lib.hid hzB
  clear hR0 hb1 hbc hbw hzl hzB
  go_upto_region 7 with (fail)
  obtain ⟨gb, hgb⟩ : ∃ gb, gb = wc.heap.size := ⟨_, rfl⟩
  obtain ⟨W7, hW7⟩ : ∃ W7, W7 = wc.alloc (.cells (byteRow zs) 5) := ⟨_, rfl⟩
  rw [← hW7, ← hgb]
  have hrow7 : W7.heap[gb]? = some (.cells (byteRow zs) 5 (0, 0)) := by
    rw [hW7, hgb]
    exact heap_new rfl
  have hbw7 : Below w.heap.size w W7 := by
    rw [hW7]
    exact HBW.out.alloc HBW.out.size _
  have hgw : w.heap.size ≤ gb := by
    rw [hgb]
    exact HBW.out.size
  clear hW7 hgb hmk hcp ra rb rc rl hmm
  have c0 := row_at hrow7 0 (by have := HZL.out; omega)
  have c1 := row_at hrow7 1 (by have := HZL.out; omega)
  have cf := fun i => frozen_of_row W7 gb i _ _ hrow7
  obtain ⟨ys, hys⟩ : ∃ ys, ys = (zs.set 0 0).set 1 2 := ⟨_, rfl⟩
  obtain ⟨W8, hW8⟩ : ∃ W8, W8 = (W7.setCell ⟨gb, 0, none⟩ (.int .u8 0)).setCell ⟨gb, 1, none⟩ (.int .u8 2) := ⟨_, rfl⟩
  have hrow8 : W8.heap[gb]? = some (.cells (byteRow ys) 5 (0, 0)) := by
    rw [hW8, hys]
    exact row_set (row_set hrow7 0 0) 1 2
  have hyl : ys.length = 51 := by rw [hys, List.length_set, List.length_set, HZL.out]
  have hyB : Byt ys := by rw [hys]; exact (HZB.out.put 0 (by omega)).put 1 (by omega)
  have h512 : p16 ys 0 = 512 := by
    have hz := HZL.out
    unfold p16
    rw [hys, List.getD_eq_getElem?_getD, List.getD_eq_getElem?_getD, List.getElem?_set, List.getElem?_set, List.getElem?_set]
    simp [hz]
  have hbw8 : Below w.heap.size w W8 := by
    rw [hW8]
    exact (hbw7.setCell (p := ⟨gb, 0, none⟩) hgw _).setCell (p := ⟨gb, 1, none⟩) hgw _
  have HROW8 := Lib.hid hrow8
  have HYL := Lib.hid hyl
  have HYB := Lib.hid hyB
  have HY := Lib.hid h512
  have HBW8 := Lib.hid hbw8
  have HW8 := Lib.hid hW8
  clear hrow7 hrow8 hyl hyB h512 hbw7 hbw8 hys hW8
  rw [HW8.out] at HROW8 HBW8
  go_upto_region 9 with (fail)
  rw [← HW8.out] at HROW8 HBW8 ⊢
  obtain ⟨vs0, hvs0⟩ : ∃ vs, vs = ys.set 27 41 := ⟨_, rfl⟩
  have c27 := row_at HROW8.out 27 (by have := HYL.out; omega)
  have cf8 := fun i => frozen_of_row W8 gb i _ _ HROW8.out
  have hr0 : (W8.setCell ⟨gb, 27, none⟩ (.int .u8 41)).heap[gb]? = some (.cells (byteRow vs0) 5 (0, 0)) := by
    rw [hvs0]
    exact row_set HROW8.out 27 41
  have hv0l : vs0.length = 51 := by rw [hvs0, List.length_set]; exact HYL.out
  have hv0B : Byt vs0 := by rw [hvs0]; exact HYB.out.put 27 (by omega)
  have hv05 : p16 vs0 0 = 512 := by
    have := HY.out
    unfold p16 at this ⊢
    rw [hvs0, getD_set_ne2 _ _ _ _ (by omega), getD_set_ne2 _ _ _ _ (by omega)]
    exact this
  have hv041 : p8 vs0 27 = 41 := by
    unfold p8
    rw [hvs0, List.getD_eq_getElem?_getD, List.getElem?_set]
    simp [HYL.out]
  have hbw0 : Below w.heap.size w (W8.setCell ⟨gb, 27, none⟩ (.int .u8 41)) := HBW8.out.setCell (p := ⟨gb, 27, none⟩) hgw _
  have HR0 := Lib.hid hr0
  have HV0 := Lib.hid (And.intro hv0l (And.intro hv0B (And.intro hv05 hv041)))
  have HBW0 := Lib.hid hbw0
  clear hr0 hv0l hv0B hv05 hv041 hbw0 hvs0 c0 c1 cf
  go_wp2_with fail
  go_loopw [8] (fun i wr => ∃ (k : Nat) (vs : List Int), 32 ≤ k ∧ k ≤ 51 ∧ i = .int .i64 k ∧ wr.heap[gb]? = some (.cells (byteRow vs) 5 (0, 0)) ∧ vs.length = 51 ∧ Byt vs ∧ p16 vs 0 = 512 ∧ p8 vs 27 = 41 ∧ (∀ j, 32 ≤ j → j < k → vs.getD j 0 ≠ 32) ∧ Below w.heap.size w wr) (fun i _ => 51 - (intOf i).toNat)
  case atStart => exact ⟨32, vs0, by omega, by omega, by go_num, HR0.out, HV0.out.1, HV0.out.2.1, HV0.out.2.2.1, HV0.out.2.2.2, fun j h1 h2 => by omega, HBW0.out⟩
  case round =>
    obtain ⟨k, vs, hk32, hk51, rfl, hrw, hvl, hvB, hv5, hv4, hvn, hbl⟩ := hrel
    have HRW := Lib.hid hrw
    have HVL := Lib.hid hvl
    have HVB := Lib.hid hvB
    have HV5 := Lib.hid hv5
    have HV4 := Lib.hid hv4
    have HVN := Lib.hid hvn
    have HBL := Lib.hid hbl
    clear hrw hvl hvB hv5 hv4 hvn hbl
    by_cases hlt : k < 51
    · obtain ⟨y, hy⟩ : ∃ y, y = vs.getD k 0 := ⟨_, rfl⟩
      have hck : wr.cell? ⟨gb, k, none⟩ = some (.int .u8 y) := by
        rw [hy]
        exact row_at HRW.out k (by have := HVL.out; omega)
      have hfk : wr.frozen? ⟨gb, k, none⟩ = false := frozen_of_row _ _ k _ _ HRW.out
      have hyb : 0 ≤ y ∧ y < 256 := by
        rw [hy]
        exact HVB.out k
      clear hy
      obtain ⟨x, hx⟩ : ∃ x : Int, x = 65 + y % 26 := ⟨_, rfl⟩
      have hrs := row_set HRW.out k x
      have hxb : 65 ≤ x ∧ x ≤ 90 := by omega
      have HRS := Lib.hid hrs
      have HX := Lib.hid hx
      clear hrs hx
      go_wp2_with fail
      go_roundw
      case rel =>
        rw [← HX.out]
        refine ⟨k + 1, vs.set k x, by omega, by omega, by go_num, HRS.out, by rw [List.length_set]; exact HVL.out, HVB.out.put k (by omega), ?_, ?_, ?_, HBL.out.setCell (p := ⟨gb, k, none⟩) hgw _⟩
        · have h9 := HV5.out
          unfold p16 at h9 ⊢
          rw [getD_set_ne2 _ _ _ _ (by omega), getD_set_ne2 _ _ _ _ (by omega)]
          exact h9
        · have h9 := HV4.out
          unfold p8 at h9 ⊢
          rw [getD_set_ne2 _ _ _ _ (by omega)]
          exact h9
        · intro j h1 h2
          by_cases hjk : k = j
          · subst hjk
            rw [List.getD_eq_getElem?_getD, List.getElem?_set]
            have := HVL.out
            simp [this, hlt]
            omega
          · rw [getD_set_ne2 _ _ _ _ hjk]
            exact HVN.out j h1 (by omega)
      case measure => simp [intOf]; omega
    · obtain rfl : k = 51 := by omega
      obtain ⟨ys, hys⟩ : ∃ ys, ys = vs := ⟨_, rfl⟩
      rw [← hys] at HRW HVL HVB HV5 HV4 HVN
      clear hys
      have ht1 : trimL (subL ys 32 11) = subL ys 32 11 := trim_sub (by have := HVL.out; omega) (by omega) (HVN.out 42 (by omega) (by omega))
      have ht2 : trimL (subL ys 43 8) = subL ys 43 8 := trim_sub (by have := HVL.out; omega) (by omega) (HVN.out 50 (by omega) (by omega))
      have HT1 := Lib.hid ht1
      have HT2 := Lib.hid ht2
      clear ht1 ht2
      have hcv : (convert 24 9 (.slice (some ⟨gb, 0, none⟩) 51 51)).run Try.prog wr = .ok (.string (strOfNums ys)) wr := conv_all (bys_row HRW.out) 51 (by omega) HVL.out
      go_wp2_with fail
      refine (br40_any ys wr HVB.out HVL.out HV5.out HV4.out).mono ?_
      rintro e w9 ⟨rfl, hb9⟩
      rw [HT1.out, HT2.out]
      have hrow9 : w9.heap[gb]? = some (.cells (byteRow ys) 5 (0, 0)) := (hb9.block gb (Array.getElem?_eq_some_iff.1 HRW.out).1).trans HRW.out
      have hbw9 : Below w.heap.size w w9 := HBL.out.trans (hb9.mono HBL.out.size)
      have HROW9 := Lib.hid hrow9
      have HBW9 := Lib.hid hbw9
      clear hrow9 hbw9 hb9 hcv
      go_wp2_with fail
      obtain ⟨g9, hg9⟩ : ∃ g9, g9 = w9.heap.size := ⟨_, rfl⟩
      obtain ⟨WA, hWA⟩ : ∃ WA, WA = w9.alloc (.cells #[.int .i64 40, .int .i64 (512), .int .i64 (p8 ys 2), .int .i64 (p16 ys 3), .int .i64 (p8 ys 5), .int .i64 (p16 ys 6), .int .i64 (p16 ys 8), .int .i64 (p8 ys 10), .int .i64 (p16 ys 11), .int .i64 (p16 ys 13), .int .i64 (p16 ys 15), .int .i64 (p32 ys 17), .int .i64 (p32 ys 21), .int .i64 (p8 ys 25), .int .i64 (p8 ys 26), .int .i64 41, .int .i64 (p32 ys 28), .string (strOfNums (subL ys 32 11)), .string (strOfNums (subL ys 43 8))] 26) := ⟨_, rfl⟩
      rw [← hWA, ← hg9]
      have hS : ∀ z, Below WA.heap.size WA z → blkD z g9 = #[.int .i64 40, .int .i64 (512), .int .i64 (p8 ys 2), .int .i64 (p16 ys 3), .int .i64 (p8 ys 5), .int .i64 (p16 ys 6), .int .i64 (p16 ys 8), .int .i64 (p8 ys 10), .int .i64 (p16 ys 11), .int .i64 (p16 ys 13), .int .i64 (p16 ys 15), .int .i64 (p32 ys 17), .int .i64 (p32 ys 21), .int .i64 (p8 ys 25), .int .i64 (p8 ys 26), .int .i64 41, .int .i64 (p32 ys 28), .string (strOfNums (subL ys 32 11)), .string (strOfNums (subL ys 43 8))] ∧ (convert 24 9 (.slice (some ⟨gb, 0, none⟩) 51 51)).run Try.prog z = .ok (.string (strOfNums ys)) z := fun z hz => by
        have hrA : WA.heap[gb]? = some (.cells (byteRow ys) 5 (0, 0)) := by
          rw [hWA]
          exact (Below.heap_alloc _ _ _ (Array.getElem?_eq_some_iff.1 HROW9.out).1).trans HROW9.out
        refine ⟨(bblk hz g9 (by rw [hWA, hg9]; simp)).trans (by rw [hWA]; exact blkD_alloc_at _ _ _ _ hg9), conv_all (bys_row ((hz.block gb (Array.getElem?_eq_some_iff.1 hrA).1).trans hrA)) 51 (by omega) HVL.out⟩
      have hbwA : Below w.heap.size w WA := by
        rw [hWA]
        exact HBW9.out.alloc HBW9.out.size _
      have HSS := Lib.hid hS
      have HBWA := Lib.hid hbwA
      clear hS hbwA hWA hg9
      go_region_held3 (fun z => blkD z g9 = #[.int .i64 40, .int .i64 (512), .int .i64 (p8 ys 2), .int .i64 (p16 ys 3), .int .i64 (p8 ys 5), .int .i64 (p16 ys 6), .int .i64 (p16 ys 8), .int .i64 (p8 ys 10), .int .i64 (p16 ys 11), .int .i64 (p16 ys 13), .int .i64 (p16 ys 15), .int .i64 (p32 ys 17), .int .i64 (p32 ys 21), .int .i64 (p8 ys 25), .int .i64 (p8 ys 26), .int .i64 41, .int .i64 (p32 ys 28), .string (strOfNums (subL ys 32 11)), .string (strOfNums (subL ys 43 8))] ∧ (convert 24 9 (.slice (some ⟨gb, 0, none⟩) 51 51)).run Try.prog z = .ok (.string (strOfNums ys)) z)
        (first | exact HSS.out _ (Below.refl _ _) | exact HSS.out _ (Below.refl _ _).drew | exact HSS.out _ (below_undrew hbz) | exact HSS.out _ (below_undrew hbz).drew)
        (first | (go_at_call 6; refine (sbr40_any ys _ HVB.out HVL.out HV5.out HV4.out).mono ?_; rintro e z2 ⟨rfl, hbz⟩))
      go_wp2
      go_ret
      exact ⟨rfl, HBWA.out.trans ((below_undrew hbz).mono HBWA.out.size)⟩


end Go.Proofs.Ytblfacaicoaodaa
