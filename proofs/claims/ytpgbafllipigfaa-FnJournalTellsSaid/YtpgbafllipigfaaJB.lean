/- Walks of the readers and writers of four bytes; the header's bytes. -/
import Derived.Test.YtpgbafllipigfaaJA
import Derived.Deep.DrawnRows
namespace Go.Proofs.Ytpgbafllipigfaa
open Go.RowKit
attribute [local go_sem ↓] Go.wp_at_zero Go.wp_at_succ

theorem lt_all {g n : Nat} (h : g < n) : g < n + 1 ∧ g < n + 1 + 1 ∧ g < n + 1 + 1 + 1 ∧ g < n + 1 + 1 + 1 + 1 ∧ g < n + 1 + 1 + 1 + 1 + 1 ∧ g < n + 1 + 1 + 1 + 1 + 1 + 1 ∧ g < n + 1 + 1 + 1 + 1 + 1 + 1 + 1 ∧ g < n + 1 + 1 + 1 + 1 + 1 + 1 + 1 + 1 ∧ g < n + 1 + 1 + 1 + 1 + 1 + 1 + 1 + 1 + 1 ∧ g < n + 1 + 1 + 1 + 1 + 1 + 1 + 1 + 1 + 1 + 1 ∧ g < n + 1 + 1 + 1 + 1 + 1 + 1 + 1 + 1 + 1 + 1 + 1 ∧ g < n + 1 + 1 + 1 + 1 + 1 + 1 + 1 + 1 + 1 + 1 + 1 + 1 ∧ g < n + 1 + 1 + 1 + 1 + 1 + 1 + 1 + 1 + 1 + 1 + 1 + 1 + 1 ∧ g < n + 1 + 1 + 1 + 1 + 1 + 1 + 1 + 1 + 1 + 1 + 1 + 1 + 1 + 1 ∧ g < n + 1 + 1 + 1 + 1 + 1 + 1 + 1 + 1 + 1 + 1 + 1 + 1 + 1 + 1 + 1 ∧ g < n + 1 + 1 + 1 + 1 + 1 + 1 + 1 + 1 + 1 + 1 + 1 + 1 + 1 + 1 + 1 + 1 ∧ g < n + 1 + 1 + 1 + 1 + 1 + 1 + 1 + 1 + 1 + 1 + 1 + 1 + 1 + 1 + 1 + 1 + 1 ∧ g < n + 1 + 1 + 1 + 1 + 1 + 1 + 1 + 1 + 1 + 1 + 1 + 1 + 1 + 1 + 1 + 1 + 1 + 1 ∧ g < n + 1 + 1 + 1 + 1 + 1 + 1 + 1 + 1 + 1 + 1 + 1 + 1 + 1 + 1 + 1 + 1 + 1 + 1 + 1 ∧ g < n + 1 + 1 + 1 + 1 + 1 + 1 + 1 + 1 + 1 + 1 + 1 + 1 + 1 + 1 + 1 + 1 + 1 + 1 + 1 + 1 ∧ g < n + 1 + 1 + 1 + 1 + 1 + 1 + 1 + 1 + 1 + 1 + 1 + 1 + 1 + 1 + 1 + 1 + 1 + 1 + 1 + 1 + 1 ∧ g < n + 1 + 1 + 1 + 1 + 1 + 1 + 1 + 1 + 1 + 1 + 1 + 1 + 1 + 1 + 1 + 1 + 1 + 1 + 1 + 1 + 1 + 1 ∧ g < n + 1 + 1 + 1 + 1 + 1 + 1 + 1 + 1 + 1 + 1 + 1 + 1 + 1 + 1 + 1 + 1 + 1 + 1 + 1 + 1 + 1 + 1 + 1 ∧ g < n + 1 + 1 + 1 + 1 + 1 + 1 + 1 + 1 + 1 + 1 + 1 + 1 + 1 + 1 + 1 + 1 + 1 + 1 + 1 + 1 + 1 + 1 + 1 + 1 := by omega
theorem blkD_lt {w : World} {g i : Nat} (h : i < (blkD w g).size) : g < w.heap.size := by
  obtain ⟨n, hn⟩ : ∃ n, (blkD w g).size = n + 1 := ⟨(blkD w g).size - 1, by omega⟩
  obtain ⟨t, ht⟩ := blkD_heap hn
  exact (Array.getElem?_eq_some_iff.1 ht).1
theorem blkD_cell {w : World} {g : Nat} (i : Nat) (h : i < (blkD w g).size) : ∃ u, w.cell? ⟨g, i, none⟩ = some u :=
  ⟨_, (cell_blkD i h).trans (Array.getElem?_eq_getElem h)⟩
theorem setCell_past (w : World) (o : Obj) (g i : Nat) (v : Value) (h : g < w.heap.size) : (w.alloc o).setCell ⟨g, i, none⟩ v = (w.setCell ⟨g, i, none⟩ v).alloc o := by
  unfold World.setCell World.alloc
  congr 1
  apply Array.ext_getElem?
  intro k
  rw [Array.getElem?_modify, Array.getElem?_push, Array.getElem?_push, Array.getElem?_modify]
  simp only [Array.size_modify]
  by_cases hk : g = k
  · subst hk
    simp [Nat.ne_of_lt h]
  · simp [hk]
attribute [go_sem] setCell_past
/-- one cell stored, as a row stored -/
theorem setCell_row {w : World} {g o : Nat} (v : Value) (h : o < (blkD w g).size) : w.setCell ⟨g, o, none⟩ v = w.setRow g ((blkD w g).setIfInBounds o v) := by
  obtain ⟨n, hn⟩ : ∃ n, (blkD w g).size = n + 1 := ⟨(blkD w g).size - 1, by omega⟩
  obtain ⟨t, ht⟩ := blkD_heap hn
  unfold World.setCell World.setRow
  congr 1
  apply Array.ext_getElem?
  intro k
  rw [Array.getElem?_modify, Array.getElem?_modify]
  by_cases hk : g = k
  · subst hk
    rw [ht]
    simp
  · simp [hk]
theorem setRow_setRow (w : World) (g : Nat) (A B : Array Value) : (w.setRow g A).setRow g B = w.setRow g B := by
  unfold World.setRow
  congr 1
  apply Array.ext_getElem?
  intro k
  rw [Array.getElem?_modify, Array.getElem?_modify, Array.getElem?_modify]
  by_cases hk : g = k
  · subst hk
    cases w.heap[g]? with
    | none => simp
    | some o => cases o <;> simp
  · simp [hk]
theorem setCells4 {w : World} {g o : Nat} (x : Int) (h : o + 3 < (blkD w g).size) :
    (((w.setCell ⟨g, o, none⟩ (.int .u8 (by3 x))).setCell ⟨g, o + 1, none⟩ (.int .u8 (by2 x))).setCell ⟨g, o + 2, none⟩ (.int .u8 (by1 x))).setCell ⟨g, o + 3, none⟩ (.int .u8 (by0 x)) = w.setRow g (put4 (blkD w g) o x) := by
  have hz : 0 < (blkD w g).size := by omega
  have e1 := setCell_row (w := w) (g := g) (o := o) (.int .u8 (by3 x)) (by omega)
  have b1 : blkD (w.setRow g ((blkD w g).setIfInBounds o (.int .u8 (by3 x)))) g = _ := blkD_setRow_same w g _ hz
  rw [e1, setCell_row (.int .u8 (by2 x)) (by rw [b1]; simp; omega), b1, setRow_setRow]
  have b2 : blkD (w.setRow g (((blkD w g).setIfInBounds o (.int .u8 (by3 x))).setIfInBounds (o + 1) (.int .u8 (by2 x)))) g = _ := blkD_setRow_same w g _ hz
  rw [setCell_row (.int .u8 (by1 x)) (by rw [b2]; simp; omega), b2, setRow_setRow]
  have b3 : blkD (w.setRow g ((((blkD w g).setIfInBounds o (.int .u8 (by3 x))).setIfInBounds (o + 1) (.int .u8 (by2 x))).setIfInBounds (o + 2) (.int .u8 (by1 x)))) g = _ := blkD_setRow_same w g _ hz
  rw [setCell_row (.int .u8 (by0 x)) (by rw [b3]; simp; omega), b3, setRow_setRow]
  rfl

@[go_sem] theorem mk12 (w : World) : (Instr.makeSlice 28 (.int .i64 12) (.int .i64 12)).run Try.prog w = .ok (.slice (some ⟨w.heap.size, 0, none⟩) 12 12) (w.alloc (.cells #[.int .u8 0, .int .u8 0, .int .u8 0, .int .u8 0, .int .u8 0, .int .u8 0, .int .u8 0, .int .u8 0, .int .u8 0, .int .u8 0, .int .u8 0, .int .u8 0] 5)) := by kernel_rfl
theorem pu_any (g o c : Nat) (x : Int) (w : World) (h0 : 0 ≤ x) (h1 : x ≤ 4294967295) (hb : o + 3 < (blkD w g).size) :
    Calls Try.prog 19 #[.agg #[], .slice (some ⟨g, o, none⟩) 4 c, .int .u32 x] w fun e w' => e = .returned (.tuple #[]) ∧
      w' = (w.setRow g (put4 (blkD w g) o x)).alloc (.cells #[] 57) := by
  have hg := blkD_lt hb
  have hs := setCells4 x hb
  obtain ⟨u, c0⟩ := blkD_cell (w := w) (g := g) o (by omega)
  obtain ⟨v, c1⟩ := blkD_cell (w := w) (g := g) (o + 1) (by omega)
  obtain ⟨u2, c2⟩ := blkD_cell (w := w) (g := g) (o + 2) (by omega)
  obtain ⟨u3, c3⟩ := blkD_cell (w := w) (g := g) (o + 3) (by omega)
  have f0 := frozen_blkD (w := w) (g := g) o (by omega)
  have f1 := frozen_blkD (w := w) (g := g) (o + 1) (by omega)
  have f2 := frozen_blkD (w := w) (g := g) (o + 2) (by omega)
  have f3 := frozen_blkD (w := w) (g := g) (o + 3) (by omega)
  clear hb
  have HS := Lib.hid hs
  clear hs
  go_enter Try.func19, Try.ntmps19
  go_wp2
  go_end0
  refine ⟨rfl, ?_⟩
  rw [← HS.out, show x / 16777216 = by3 x from by unfold by3; omega]
  rfl

theorem ret_u32 {a b : Int} (h : a = b) : Ending.returned (.int .u32 a) = .returned (.int .u32 b) := by rw [h]
theorem ru_any (g o c : Nat) (y0 y1 y2 y3 : Int) (w : World) (c0 : w.cell? ⟨g, o, none⟩ = some (.int .u8 y0)) (c1 : w.cell? ⟨g, o + 1, none⟩ = some (.int .u8 y1)) (c2 : w.cell? ⟨g, o + 2, none⟩ = some (.int .u8 y2))
    (c3 : w.cell? ⟨g, o + 3, none⟩ = some (.int .u8 y3)) (a0 : 0 ≤ y0) (b0 : y0 < 256) (a1 : 0 ≤ y1) (b1 : y1 < 256) (a2 : 0 ≤ y2) (b2 : y2 < 256) (a3 : 0 ≤ y3) (b3 : y3 < 256) (hg : g < w.heap.size) :
    Calls Try.prog 23 #[.agg #[], .slice (some ⟨g, o, none⟩) 4 c] w fun e w' => e = .returned (.int .u32 (y0 * 16777216 + y1 * 65536 + y2 * 256 + y3)) ∧ w' = (w.alloc (.cells #[] 57)).drew := by
  have h4 := Lib.hid (or4 y0 y1 y2 y3 a0 b0 a1 b1 a2 b2 a3 b3)
  go_enter Try.func23, Try.ntmps23
  go_wp2
  go_region_held3 (fun w' => w'.cell? ⟨g, o, none⟩ = some (.int .u8 y0) ∧ w'.cell? ⟨g, o + 1, none⟩ = some (.int .u8 y1) ∧ w'.cell? ⟨g, o + 2, none⟩ = some (.int .u8 y2) ∧ w'.cell? ⟨g, o + 3, none⟩ = some (.int .u8 y3))
    (first | (with_reducible assumption) | (simp [go_sem, *]; done)) (fail)
  go_wp2
  go_ret
  refine ⟨ret_u32 ?_, rfl⟩
  rw [u32_wrap_id y3 a3 (by omega), u32_wrap_id y2 a2 (by omega), u32_wrap_id y1 a1 (by omega), u32_wrap_id y0 a0 (by omega), u32_wrap_id (y2 * 256) (by omega) (by omega), u32_wrap_id (y1 * 65536) (by omega) (by omega), u32_wrap_id (y0 * 16777216) (by omega) (by omega)]
  exact h4.out

set_option maxRecDepth 100000 in
set_option maxHeartbeats 1000000 in
theorem htb_any (g : Nat) (h0 h1 h2 : Int) (w : World) (hb : blkD w g = #[.int .u32 h0, .int .u32 h1, .int .u32 h2]) (a0 : 0 ≤ h0) (b0 : h0 ≤ 4294967295) (a1 : 0 ≤ h1) (b1 : h1 ≤ 4294967295) (a2 : 0 ≤ h2) (b2 : h2 ≤ 4294967295) :
    Calls Try.prog 18 #[.pointer (some ⟨g, 0, none⟩)] w fun e w' => e = .returned (.slice (some ⟨w.heap.size, 0, none⟩) 12 12) ∧ w' = ((((w.alloc (.cells (hdB h0 h1 h2) 5)).alloc (.cells #[] 57)).alloc (.cells #[] 57)).alloc (.cells #[] 57)).drew.drew.drew := by
  have hg : g < w.heap.size := blkD_lt (i := 0) (by rw [hb]; simp)
  obtain ⟨q1, q2, q3, q4, q5, q6, q7, q8, q9, q10, q11, q12, q13, q14, q15, q16, q17, q18, q19, q20, q21, q22, q23, q24⟩ := lt_all hg
  go_enter Try.func18, Try.ntmps18
  go_wp2
  go_region_held3 (fun w' => blkD w' g = #[.int .u32 h0, .int .u32 h1, .int .u32 h2]) (first | (with_reducible assumption) | (simp [go_sem, *]; done))
    (first | (go_at_call 19; refine (pu_any _ _ _ _ _ ?_ ?_ ?_).mono ?_; omega; omega; (simp [go_sem]); rintro e w1 ⟨rfl, rfl⟩))
  go_wp2
  go_region_held3 (fun w' => blkD w' g = #[.int .u32 h0, .int .u32 h1, .int .u32 h2]) (first | (with_reducible assumption) | (simp [go_sem, *]; done))
    (first | (go_at_call 19; refine (pu_any _ _ _ _ _ ?_ ?_ ?_).mono ?_; omega; omega; (simp [go_sem]); rintro e w1 ⟨rfl, rfl⟩))
  go_wp2
  go_region_held3 (fun w' => blkD w' g = #[.int .u32 h0, .int .u32 h1, .int .u32 h2]) (first | (with_reducible assumption) | (simp [go_sem, *]; done))
    (first | (go_at_call 19; refine (pu_any _ _ _ _ _ ?_ ?_ ?_).mono ?_; omega; omega; (simp [go_sem]); rintro e w1 ⟨rfl, rfl⟩))
  go_wp2
  go_ret
  exact ⟨rfl, by simp [go_sem, put4, hdB]⟩
end Go.Proofs.Ytpgbafllipigfaa
