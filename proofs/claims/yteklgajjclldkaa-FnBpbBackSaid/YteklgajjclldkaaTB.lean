/- Walks of the three ToBytes. -/
import Derived.Test.YteklgajjclldkaaX
import Derived.Deep.DrawnRows
namespace Go.Proofs.Yteklgajjclldkaa
open Go.RowKit
attribute [local go_sem ↓] Go.wp_at_zero Go.wp_at_succ

/-- cells laid into a row -/
def spl (cur : Array Value) (o : Nat) (cs : List Value) : Array Value := (cur.toList.take o ++ cs ++ cur.toList.drop (o + cs.length)).toArray
attribute [go_sem] spl
theorem s_u8 : (Try.prog.info? 5).map (·.size) = some 1 := by kernel_rfl
@[go_sem] theorem run_copy_blk (w : World) (g o n c g2 n2 c2 : Nat) (ty : TypeId) (h : o + n2 ≤ (blkD w g).size) (h0 : 0 < (blkD w g).size) (_h20 : 0 < (blkD w g2).size) (h2 : n2 ≤ (blkD w g2).size) (hle : n2 ≤ n) (h1 : (blkD w g2).all (·.oneCell') = true) :
    (Builtin.copy_ #[36, 36] ty #[.slice (some ⟨g, o, none⟩) n c, .slice (some ⟨g2, 0, none⟩) n2 c2]).run Try.prog w = .ok (goInt n2) (w.setRow g (spl (blkD w g) o ((blkD w g2).toList.take n2))) := by
  obtain ⟨m, hm⟩ : ∃ m, (blkD w g).size = m + 1 := ⟨(blkD w g).size - 1, by omega⟩
  obtain ⟨t, ht⟩ := blkD_heap hm
  have hl : ((blkD w g2).toList.take n2).length = n2 := by simp; omega
  have := run_copy_row (P := Try.prog) w 36 36 ty 5 g o n c ⟨g2, 0, none⟩ n2 c2 (blkD w g) t ((blkD w g2).toList.take n2) Try.underlying36 s_u8 ht (by rw [hl]; exact (Nat.min_eq_left hle).symm)
    (fun j v hj => by
      have hj2 : j < n2 := by
        rcases Nat.lt_or_ge j n2 with hh | hh
        · exact hh
        · rw [List.getElem?_eq_none (by rw [hl]; exact hh)] at hj; cases hj
      have hp : (⟨g2, 0, none⟩ : Addr).add j = ⟨g2, j, none⟩ := by
        unfold Addr.add
        split
        · rename_i e; rw [e]
        · simp
      rw [hp, cell_blkD j (by omega), ← hj, List.getElem?_take_of_lt hj2]
      simp)
    (by rw [hl]; exact h) (fun v hv => by
      have := List.mem_of_mem_take hv
      simp only [Array.all_eq_true_iff_forall_mem] at h1
      exact h1 v (by simpa using this))
  rw [this]
  unfold spl
  rw [hl]
@[go_sem] theorem mk13 (w : World) : (Instr.makeSlice 36 (.int .i64 13) (.int .i64 13)).run Try.prog w = .ok (.slice (some ⟨w.heap.size, 0, none⟩) 13 13) (w.alloc (.cells #[.int .u8 0, .int .u8 0, .int .u8 0, .int .u8 0, .int .u8 0, .int .u8 0, .int .u8 0, .int .u8 0, .int .u8 0, .int .u8 0, .int .u8 0, .int .u8 0, .int .u8 0] 5)) := by kernel_rfl
@[go_sem] theorem mk25 (w : World) : (Instr.makeSlice 36 (.int .i64 25) (.int .i64 25)).run Try.prog w = .ok (.slice (some ⟨w.heap.size, 0, none⟩) 25 25) (w.alloc (.cells #[.int .u8 0, .int .u8 0, .int .u8 0, .int .u8 0, .int .u8 0, .int .u8 0, .int .u8 0, .int .u8 0, .int .u8 0, .int .u8 0, .int .u8 0, .int .u8 0, .int .u8 0, .int .u8 0, .int .u8 0, .int .u8 0, .int .u8 0, .int .u8 0, .int .u8 0, .int .u8 0, .int .u8 0, .int .u8 0, .int .u8 0, .int .u8 0, .int .u8 0] 5)) := by kernel_rfl
@[go_sem] theorem mk32 (w : World) : (Instr.makeSlice 36 (.int .i64 32) (.int .i64 32)).run Try.prog w = .ok (.slice (some ⟨w.heap.size, 0, none⟩) 32 32) (w.alloc (.cells #[.int .u8 0, .int .u8 0, .int .u8 0, .int .u8 0, .int .u8 0, .int .u8 0, .int .u8 0, .int .u8 0, .int .u8 0, .int .u8 0, .int .u8 0, .int .u8 0, .int .u8 0, .int .u8 0, .int .u8 0, .int .u8 0, .int .u8 0, .int .u8 0, .int .u8 0, .int .u8 0, .int .u8 0, .int .u8 0, .int .u8 0, .int .u8 0, .int .u8 0, .int .u8 0, .int .u8 0, .int .u8 0, .int .u8 0, .int .u8 0, .int .u8 0, .int .u8 0] 5)) := by kernel_rfl
@[go_sem] theorem mk51 (w : World) : (Instr.makeSlice 36 (.int .i64 51) (.int .i64 51)).run Try.prog w = .ok (.slice (some ⟨w.heap.size, 0, none⟩) 51 51) (w.alloc (.cells #[.int .u8 0, .int .u8 0, .int .u8 0, .int .u8 0, .int .u8 0, .int .u8 0, .int .u8 0, .int .u8 0, .int .u8 0, .int .u8 0, .int .u8 0, .int .u8 0, .int .u8 0, .int .u8 0, .int .u8 0, .int .u8 0, .int .u8 0, .int .u8 0, .int .u8 0, .int .u8 0, .int .u8 0, .int .u8 0, .int .u8 0, .int .u8 0, .int .u8 0, .int .u8 0, .int .u8 0, .int .u8 0, .int .u8 0, .int .u8 0, .int .u8 0, .int .u8 0, .int .u8 0, .int .u8 0, .int .u8 0, .int .u8 0, .int .u8 0, .int .u8 0, .int .u8 0, .int .u8 0, .int .u8 0, .int .u8 0, .int .u8 0, .int .u8 0, .int .u8 0, .int .u8 0, .int .u8 0, .int .u8 0, .int .u8 0, .int .u8 0, .int .u8 0] 5)) := by kernel_rfl

set_option maxRecDepth 100000 in
set_option maxHeartbeats 2000000 in
theorem tb2_any (g : Nat) (x1 x2 x3 x4 x5 x6 x7 x8 : Int) (w : World) (hb : blkD w g = #[.int .u16 x1, .int .u8 x2, .int .u16 x3, .int .u8 x4, .int .u16 x5, .int .u16 x6, .int .u8 x7, .int .u16 x8]) (a1 : 0 ≤ x1) (b1 : x1 ≤ 65535) (a3 : 0 ≤ x3) (b3 : x3 ≤ 65535) (a5 : 0 ≤ x5) (b5 : x5 ≤ 65535) (a6 : 0 ≤ x6) (b6 : x6 ≤ 65535) (a8 : 0 ≤ x8) (b8 : x8 ≤ 65535) :
    Calls Try.prog 12 #[.pointer (some ⟨g, 0, none⟩)] w fun e w' => e = .returned (.slice (some ⟨w.heap.size, 0, none⟩) 13 13) ∧ w' = ((((((w.alloc (.cells #[.int .u8 (by0 x1), .int .u8 (by1 x1), .int .u8 x2, .int .u8 (by0 x3), .int .u8 (by1 x3), .int .u8 x4, .int .u8 (by0 x5), .int .u8 (by1 x5), .int .u8 (by0 x6), .int .u8 (by1 x6), .int .u8 x7, .int .u8 (by0 x8), .int .u8 (by1 x8)] 5)).alloc (.cells #[] 64)).alloc (.cells #[] 64)).alloc (.cells #[] 64)).alloc (.cells #[] 64)).alloc (.cells #[] 64)).drew.drew.drew.drew.drew := by
  have hg : g < w.heap.size := blkD_lt (i := 0) (by rw [hb]; simp)
  obtain ⟨q1, q2, q3, q4, q5, q6, q7, q8, q9, q10, q11, q12, q13, q14, q15, q16⟩ := lt_all hg
  go_enter Try.func12, Try.ntmps12
  go_wp2
  go_region_held3 (fun w' => blkD w' g = #[.int .u16 x1, .int .u8 x2, .int .u16 x3, .int .u8 x4, .int .u16 x5, .int .u16 x6, .int .u8 x7, .int .u16 x8]) (first | (with_reducible assumption) | (simp [go_sem, *]; done))
    (first | (go_at_call 21; refine (le16_any _ _ _ _ _ ?_ ?_ ?_).mono ?_; omega; omega; (simp [go_sem]); rintro e w1 ⟨rfl, rfl⟩))
  go_wp2
  go_region_held3 (fun w' => blkD w' g = #[.int .u16 x1, .int .u8 x2, .int .u16 x3, .int .u8 x4, .int .u16 x5, .int .u16 x6, .int .u8 x7, .int .u16 x8]) (first | (with_reducible assumption) | (simp [go_sem, *]; done))
    (first | (go_at_call 21; refine (le16_any _ _ _ _ _ ?_ ?_ ?_).mono ?_; omega; omega; (simp [go_sem]); rintro e w1 ⟨rfl, rfl⟩))
  go_wp2
  go_region_held3 (fun w' => blkD w' g = #[.int .u16 x1, .int .u8 x2, .int .u16 x3, .int .u8 x4, .int .u16 x5, .int .u16 x6, .int .u8 x7, .int .u16 x8]) (first | (with_reducible assumption) | (simp [go_sem, *]; done))
    (first | (go_at_call 21; refine (le16_any _ _ _ _ _ ?_ ?_ ?_).mono ?_; omega; omega; (simp [go_sem]); rintro e w1 ⟨rfl, rfl⟩))
  go_wp2
  go_region_held3 (fun w' => blkD w' g = #[.int .u16 x1, .int .u8 x2, .int .u16 x3, .int .u8 x4, .int .u16 x5, .int .u16 x6, .int .u8 x7, .int .u16 x8]) (first | (with_reducible assumption) | (simp [go_sem, *]; done))
    (first | (go_at_call 21; refine (le16_any _ _ _ _ _ ?_ ?_ ?_).mono ?_; omega; omega; (simp [go_sem]); rintro e w1 ⟨rfl, rfl⟩))
  go_wp2
  go_region_held3 (fun w' => blkD w' g = #[.int .u16 x1, .int .u8 x2, .int .u16 x3, .int .u8 x4, .int .u16 x5, .int .u16 x6, .int .u8 x7, .int .u16 x8]) (first | (with_reducible assumption) | (simp [go_sem, *]; done))
    (first | (go_at_call 21; refine (le16_any _ _ _ _ _ ?_ ?_ ?_).mono ?_; omega; omega; (simp [go_sem]); rintro e w1 ⟨rfl, rfl⟩))
  go_wp2
  go_ret
  exact ⟨rfl, rfl⟩

set_option maxRecDepth 100000 in
set_option maxHeartbeats 4000000 in
theorem tb3_any (g g2 : Nat) (x1 x2 x3 x4 x5 x6 x7 x8 x9 x10 x11 x12 : Int) (w : World) (hb : blkD w g = #[.pointer (some ⟨g2, 0, none⟩), .int .u16 x9, .int .u16 x10, .int .u32 x11, .int .u32 x12]) (hb2 : blkD w g2 = #[.int .u16 x1, .int .u8 x2, .int .u16 x3, .int .u8 x4, .int .u16 x5, .int .u16 x6, .int .u8 x7, .int .u16 x8]) (a1 : 0 ≤ x1) (b1 : x1 ≤ 65535) (a3 : 0 ≤ x3) (b3 : x3 ≤ 65535) (a5 : 0 ≤ x5) (b5 : x5 ≤ 65535) (a6 : 0 ≤ x6) (b6 : x6 ≤ 65535) (a8 : 0 ≤ x8) (b8 : x8 ≤ 65535)
    (a9 : 0 ≤ x9) (b9 : x9 ≤ 65535) (a10 : 0 ≤ x10) (b10 : x10 ≤ 65535) (a11 : 0 ≤ x11) (b11 : x11 ≤ 4294967295) (a12 : 0 ≤ x12) (b12 : x12 ≤ 4294967295) :
    Calls Try.prog 14 #[.pointer (some ⟨g, 0, none⟩)] w fun e w' => e = .returned (.slice (some ⟨w.heap.size, 0, none⟩) 25 25) ∧ w' = (((((((((((w.alloc (.cells #[.int .u8 (by0 x1), .int .u8 (by1 x1), .int .u8 x2, .int .u8 (by0 x3), .int .u8 (by1 x3), .int .u8 x4, .int .u8 (by0 x5), .int .u8 (by1 x5), .int .u8 (by0 x6), .int .u8 (by1 x6), .int .u8 x7, .int .u8 (by0 x8), .int .u8 (by1 x8), .int .u8 (by0 x9), .int .u8 (by1 x9), .int .u8 (by0 x10), .int .u8 (by1 x10), .int .u8 (by0 x11), .int .u8 (by1 x11), .int .u8 (by2 x11), .int .u8 (by3 x11), .int .u8 (by0 x12), .int .u8 (by1 x12), .int .u8 (by2 x12), .int .u8 (by3 x12)] 5)).alloc (.cells #[.int .u8 (by0 x1), .int .u8 (by1 x1), .int .u8 x2, .int .u8 (by0 x3), .int .u8 (by1 x3), .int .u8 x4, .int .u8 (by0 x5), .int .u8 (by1 x5), .int .u8 (by0 x6), .int .u8 (by1 x6), .int .u8 x7, .int .u8 (by0 x8), .int .u8 (by1 x8)] 5)).alloc (.cells #[] 64)).alloc (.cells #[] 64)).alloc (.cells #[] 64)).alloc (.cells #[] 64)).alloc (.cells #[] 64)).alloc (.cells #[] 64)).alloc (.cells #[] 64)).alloc (.cells #[] 64)).alloc (.cells #[] 64)).drew.drew.drew.drew.drew.drew.drew.drew.drew.drew := by
  have hg : g < w.heap.size := blkD_lt (i := 0) (by rw [hb]; simp)
  have hg2 : g2 < w.heap.size := blkD_lt (i := 0) (by rw [hb2]; simp)
  have n1 : ¬ w.heap.size = g := by omega
  have n2 : ¬ w.heap.size = g2 := by omega
  obtain ⟨q1, q2, q3, q4, q5, q6, q7, q8, q9, q10, q11, q12, q13, q14, q15, q16⟩ := lt_all hg
  obtain ⟨r1, r2, r3, r4, r5, r6, r7, r8, r9, r10, r11, r12, r13, r14, r15, r16⟩ := lt_all hg2
  go_enter Try.func14, Try.ntmps14
  go_wp2
  go_region_held3 (fun w' => blkD w' g = #[.pointer (some ⟨g2, 0, none⟩), .int .u16 x9, .int .u16 x10, .int .u32 x11, .int .u32 x12] ∧ blkD w' g2 = #[.int .u16 x1, .int .u8 x2, .int .u16 x3, .int .u8 x4, .int .u16 x5, .int .u16 x6, .int .u8 x7, .int .u16 x8]) (first | (with_reducible assumption) | (simp [go_sem, *]; done))
    (first | (go_at_call 12; refine (tb2_any g2 x1 x2 x3 x4 x5 x6 x7 x8 _ ?_ a1 b1 a3 b3 a5 b5 a6 b6 a8 b8).mono ?_; (simp [go_sem, *]); rintro e w1 ⟨rfl, rfl⟩))
  go_wp2
  go_region_held3 (fun w' => blkD w' g = #[.pointer (some ⟨g2, 0, none⟩), .int .u16 x9, .int .u16 x10, .int .u32 x11, .int .u32 x12]) (first | (with_reducible assumption) | (simp [go_sem, *]; done))
    (first | (go_at_call 21; refine (le16_any _ _ _ _ _ ?_ ?_ ?_).mono ?_; omega; omega; (simp [go_sem]); rintro e w1 ⟨rfl, rfl⟩))
  go_wp2
  go_region_held3 (fun w' => blkD w' g = #[.pointer (some ⟨g2, 0, none⟩), .int .u16 x9, .int .u16 x10, .int .u32 x11, .int .u32 x12]) (first | (with_reducible assumption) | (simp [go_sem, *]; done))
    (first | (go_at_call 21; refine (le16_any _ _ _ _ _ ?_ ?_ ?_).mono ?_; omega; omega; (simp [go_sem]); rintro e w1 ⟨rfl, rfl⟩))
  go_wp2
  go_region_held3 (fun w' => blkD w' g = #[.pointer (some ⟨g2, 0, none⟩), .int .u16 x9, .int .u16 x10, .int .u32 x11, .int .u32 x12]) (first | (with_reducible assumption) | (simp [go_sem, *]; done))
    (first | (go_at_call 22; refine (le32_any _ _ _ _ _ ?_ ?_ ?_).mono ?_; omega; omega; (simp [go_sem]); rintro e w1 ⟨rfl, rfl⟩))
  go_wp2
  go_region_held3 (fun w' => blkD w' g = #[.pointer (some ⟨g2, 0, none⟩), .int .u16 x9, .int .u16 x10, .int .u32 x11, .int .u32 x12]) (first | (with_reducible assumption) | (simp [go_sem, *]; done))
    (first | (go_at_call 22; refine (le32_any _ _ _ _ _ ?_ ?_ ?_).mono ?_; omega; omega; (simp [go_sem]); rintro e w1 ⟨rfl, rfl⟩))
  go_wp2
  go_ret
  exact ⟨rfl, rfl⟩
end Go.Proofs.Yteklgajjclldkaa
