/- Walk of the third kind's ToBytes. -/
import Derived.Test.YteklgajjclldkaaTB
import Derived.Lib.BufferWrite
namespace Go.Proofs.Yteklgajjclldkaa
open Go.RowKit
attribute [local go_sem ↓] Go.wp_at_zero Go.wp_at_succ

def inByte (x : Int) : Bool := decide (0 ≤ x ∧ x < 256)
theorem byteCells_nums {xs : List Int} (h : xs.all inByte = true) : Lib.byteCells (strOfNums xs).data.toList = xs.map (Value.int .u8) := by
  rw [strOfNums_data, Lib.byteCells, List.map_map]
  refine List.map_congr_left fun x hx => ?_
  have := List.all_eq_true.1 h x hx
  simp only [inByte, decide_eq_true_eq] at this
  simp only [Function.comp]
  rw [byte_of this.1 this.2]
@[go_sem] theorem run_copy_nums (w : World) (g o n c : Nat) (ty : TypeId) (xs : List Int) (h0 : 0 < (blkD w g).size) (h : o + xs.length ≤ (blkD w g).size) (hle : xs.length ≤ n) (hx : xs.all inByte = true) :
    (Builtin.copy_ #[36, 9] ty #[.slice (some ⟨g, o, none⟩) n c, .string (strOfNums xs)]).run Try.prog w = .ok (goInt xs.length) (w.setRow g (spl (blkD w g) o (xs.map (Value.int .u8)))) := by
  obtain ⟨m, hm⟩ : ∃ m, (blkD w g).size = m + 1 := ⟨(blkD w g).size - 1, by omega⟩
  obtain ⟨t, ht⟩ := blkD_heap hm
  rw [Lib.run_copy_row_string (P := Try.prog) w 36 9 ty 5 g o n c (strOfNums xs) (blkD w g) t Try.underlying36 s_u8 ht (by rw [strOfNums_size]; exact hle) (by rw [strOfNums_size]; exact h)]
  rw [byteCells_nums hx, strOfNums_size]
  unfold spl
  rw [List.length_map]

theorem left_lit (ts xs : List Int) (n : Nat) (w : World) (ha : Asc ts) (hl : ts.length ≤ n) (hn : n ≤ 100) (hp : padL ts n = xs) :
    Calls Try.prog 24 #[.string (strOfNums ts), .int .i64 n] w fun e w' => e = .returned (.string (strOfNums xs)) ∧ ∃ o, w' = w.drew.alloc o :=
  hp ▸ left_any ts n w ha hl hn

set_option maxRecDepth 100000 in
set_option maxHeartbeats 4000000 in
theorem tb4_short (g g2 g3 : Nat) (x1 x2 x3 x4 x5 x6 x7 x8 x9 x10 x11 x12 x13 x14 x16 : Int) (ts us : List Int) (w : World) (hb : blkD w g = #[.pointer (some ⟨g3, 0, none⟩), .int .u8 x13, .int .u8 x14, .int .u8 40, .int .u32 x16, .string (strOfNums ts), .string (strOfNums us)]) (hb3 : blkD w g3 = #[.pointer (some ⟨g2, 0, none⟩), .int .u16 x9, .int .u16 x10, .int .u32 x11, .int .u32 x12]) (hb2 : blkD w g2 = #[.int .u16 x1, .int .u8 x2, .int .u16 x3, .int .u8 x4, .int .u16 x5, .int .u16 x6, .int .u8 x7, .int .u16 x8]) (a1 : 0 ≤ x1) (b1 : x1 ≤ 65535) (a3 : 0 ≤ x3) (b3 : x3 ≤ 65535) (a5 : 0 ≤ x5) (b5 : x5 ≤ 65535) (a6 : 0 ≤ x6) (b6 : x6 ≤ 65535) (a8 : 0 ≤ x8) (b8 : x8 ≤ 65535) (a9 : 0 ≤ x9) (b9 : x9 ≤ 65535) (a10 : 0 ≤ x10) (b10 : x10 ≤ 65535) (a11 : 0 ≤ x11) (b11 : x11 ≤ 4294967295) (a12 : 0 ≤ x12) (b12 : x12 ≤ 4294967295) (a16 : 0 ≤ x16) (b16 : x16 ≤ 4294967295) :
    Calls Try.prog 16 #[.pointer (some ⟨g, 0, none⟩)] w fun e w' => e = .returned (.tuple #[.slice (some ⟨w.heap.size, 0, none⟩) 32 32, .nilIface]) ∧ blkD w' w.heap.size = #[.int .u8 (by0 x1), .int .u8 (by1 x1), .int .u8 x2, .int .u8 (by0 x3), .int .u8 (by1 x3), .int .u8 x4, .int .u8 (by0 x5), .int .u8 (by1 x5), .int .u8 (by0 x6), .int .u8 (by1 x6), .int .u8 x7, .int .u8 (by0 x8), .int .u8 (by1 x8), .int .u8 (by0 x9), .int .u8 (by1 x9), .int .u8 (by0 x10), .int .u8 (by1 x10), .int .u8 (by0 x11), .int .u8 (by1 x11), .int .u8 (by2 x11), .int .u8 (by3 x11), .int .u8 (by0 x12), .int .u8 (by1 x12), .int .u8 (by2 x12), .int .u8 (by3 x12), .int .u8 x13, .int .u8 x14, .int .u8 40, .int .u8 (by0 x16), .int .u8 (by1 x16), .int .u8 (by2 x16), .int .u8 (by3 x16)] ∧ Below w.heap.size w w' := by
  have hg : g < w.heap.size := blkD_lt (i := 0) (by rw [hb]; simp)
  have hg3 : g3 < w.heap.size := blkD_lt (i := 0) (by rw [hb3]; simp)
  have hg2 : g2 < w.heap.size := blkD_lt (i := 0) (by rw [hb2]; simp)
  have n1 : ¬ w.heap.size = g := by omega
  have n2 : ¬ w.heap.size = g2 := by omega
  have n3 : ¬ w.heap.size = g3 := by omega
  obtain ⟨q1, q2, q3, q4, q5, q6, q7, q8, q9, q10, q11, q12, q13, q14, q15, q16⟩ := lt_all hg
  obtain ⟨r1, r2, r3, r4, r5, r6, r7, r8, r9, r10, r11, r12, r13, r14, r15, r16⟩ := lt_all hg2
  obtain ⟨z1, z2, z3, z4, z5, z6, z7, z8, z9, z10, z11, z12, z13, z14, z15, z16⟩ := lt_all hg3
  go_enter Try.func16, Try.ntmps16
  go_wp2
  go_region_held3 (fun w' => blkD w' g = #[.pointer (some ⟨g3, 0, none⟩), .int .u8 x13, .int .u8 x14, .int .u8 40, .int .u32 x16, .string (strOfNums ts), .string (strOfNums us)] ∧ blkD w' g3 = #[.pointer (some ⟨g2, 0, none⟩), .int .u16 x9, .int .u16 x10, .int .u32 x11, .int .u32 x12] ∧ blkD w' g2 = #[.int .u16 x1, .int .u8 x2, .int .u16 x3, .int .u8 x4, .int .u16 x5, .int .u16 x6, .int .u8 x7, .int .u16 x8]) (first | (with_reducible assumption) | (simp [go_sem, *]; done))
    (first | (go_at_call 14; refine (tb3_any g3 g2 x1 x2 x3 x4 x5 x6 x7 x8 x9 x10 x11 x12 _ ?_ ?_ a1 b1 a3 b3 a5 b5 a6 b6 a8 b8 a9 b9 a10 b10 a11 b11 a12 b12).mono ?_; (simp [go_sem, *]); (simp [go_sem, *]); rintro e w1 ⟨rfl, rfl⟩))
  go_wp2
  go_region_held3 (fun w' => blkD w' g = #[.pointer (some ⟨g3, 0, none⟩), .int .u8 x13, .int .u8 x14, .int .u8 40, .int .u32 x16, .string (strOfNums ts), .string (strOfNums us)]) (first | (with_reducible assumption) | (simp [go_sem, *]; done))
    (first | (go_at_call 22; refine (le32_any _ _ _ _ _ ?_ ?_ ?_).mono ?_; omega; omega; (simp [go_sem]); rintro e w1 ⟨rfl, rfl⟩))
  go_wp2
  go_ret2
  refine ⟨rfl, by simp [go_sem], ?_⟩
  repeat (first | (with_reducible exact Below.refl _ _) | (with_reducible refine below_drewN ?_ _) | (with_reducible refine Below.drew ?_) | (with_reducible refine Below.alloc ?_ ?_ _))
  all_goals (simp <;> omega)
set_option maxRecDepth 100000 in
set_option maxHeartbeats 4000000 in
theorem tb4_long (g g2 g3 : Nat) (x1 x2 x3 x4 x5 x6 x7 x8 x9 x10 x11 x12 x13 x14 x16 t0 t1 t2 t3 t4 t5 t6 t7 t8 t9 t10 u0 u1 u2 u3 u4 u5 u6 u7 : Int) (ts us : List Int) (w : World) (ha : Asc ts) (hu : Asc us) (hta : ts.length ≤ 11) (hua : us.length ≤ 8) (hpt : padL ts 11 = [t0, t1, t2, t3, t4, t5, t6, t7, t8, t9, t10]) (hpu : padL us 8 = [u0, u1, u2, u3, u4, u5, u6, u7]) (e0 : inByte t0 = true) (e1 : inByte t1 = true) (e2 : inByte t2 = true) (e3 : inByte t3 = true) (e4 : inByte t4 = true) (e5 : inByte t5 = true) (e6 : inByte t6 = true) (e7 : inByte t7 = true) (e8 : inByte t8 = true) (e9 : inByte t9 = true) (e10 : inByte t10 = true) (f0 : inByte u0 = true) (f1 : inByte u1 = true) (f2 : inByte u2 = true) (f3 : inByte u3 = true) (f4 : inByte u4 = true) (f5 : inByte u5 = true) (f6 : inByte u6 = true) (f7 : inByte u7 = true) (hb : blkD w g = #[.pointer (some ⟨g3, 0, none⟩), .int .u8 x13, .int .u8 x14, .int .u8 41, .int .u32 x16, .string (strOfNums ts), .string (strOfNums us)]) (hb3 : blkD w g3 = #[.pointer (some ⟨g2, 0, none⟩), .int .u16 x9, .int .u16 x10, .int .u32 x11, .int .u32 x12]) (hb2 : blkD w g2 = #[.int .u16 x1, .int .u8 x2, .int .u16 x3, .int .u8 x4, .int .u16 x5, .int .u16 x6, .int .u8 x7, .int .u16 x8]) (a1 : 0 ≤ x1) (b1 : x1 ≤ 65535) (a3 : 0 ≤ x3) (b3 : x3 ≤ 65535) (a5 : 0 ≤ x5) (b5 : x5 ≤ 65535) (a6 : 0 ≤ x6) (b6 : x6 ≤ 65535) (a8 : 0 ≤ x8) (b8 : x8 ≤ 65535) (a9 : 0 ≤ x9) (b9 : x9 ≤ 65535) (a10 : 0 ≤ x10) (b10 : x10 ≤ 65535) (a11 : 0 ≤ x11) (b11 : x11 ≤ 4294967295) (a12 : 0 ≤ x12) (b12 : x12 ≤ 4294967295) (a16 : 0 ≤ x16) (b16 : x16 ≤ 4294967295) :
    Calls Try.prog 16 #[.pointer (some ⟨g, 0, none⟩)] w fun e w' => e = .returned (.tuple #[.slice (some ⟨w.heap.size, 0, none⟩) 51 51, .nilIface]) ∧ blkD w' w.heap.size = #[.int .u8 (by0 x1), .int .u8 (by1 x1), .int .u8 x2, .int .u8 (by0 x3), .int .u8 (by1 x3), .int .u8 x4, .int .u8 (by0 x5), .int .u8 (by1 x5), .int .u8 (by0 x6), .int .u8 (by1 x6), .int .u8 x7, .int .u8 (by0 x8), .int .u8 (by1 x8), .int .u8 (by0 x9), .int .u8 (by1 x9), .int .u8 (by0 x10), .int .u8 (by1 x10), .int .u8 (by0 x11), .int .u8 (by1 x11), .int .u8 (by2 x11), .int .u8 (by3 x11), .int .u8 (by0 x12), .int .u8 (by1 x12), .int .u8 (by2 x12), .int .u8 (by3 x12), .int .u8 x13, .int .u8 x14, .int .u8 41, .int .u8 (by0 x16), .int .u8 (by1 x16), .int .u8 (by2 x16), .int .u8 (by3 x16), .int .u8 t0, .int .u8 t1, .int .u8 t2, .int .u8 t3, .int .u8 t4, .int .u8 t5, .int .u8 t6, .int .u8 t7, .int .u8 t8, .int .u8 t9, .int .u8 t10, .int .u8 u0, .int .u8 u1, .int .u8 u2, .int .u8 u3, .int .u8 u4, .int .u8 u5, .int .u8 u6, .int .u8 u7] ∧ Below w.heap.size w w' := by
  have hg : g < w.heap.size := blkD_lt (i := 0) (by rw [hb]; simp)
  have hg3 : g3 < w.heap.size := blkD_lt (i := 0) (by rw [hb3]; simp)
  have hg2 : g2 < w.heap.size := blkD_lt (i := 0) (by rw [hb2]; simp)
  have n1 : ¬ w.heap.size = g := by omega
  have n2 : ¬ w.heap.size = g2 := by omega
  have n3 : ¬ w.heap.size = g3 := by omega
  obtain ⟨q1, q2, q3, q4, q5, q6, q7, q8, q9, q10, q11, q12, q13, q14, q15, q16⟩ := lt_all hg
  obtain ⟨r1, r2, r3, r4, r5, r6, r7, r8, r9, r10, r11, r12, r13, r14, r15, r16⟩ := lt_all hg2
  obtain ⟨z1, z2, z3, z4, z5, z6, z7, z8, z9, z10, z11, z12, z13, z14, z15, z16⟩ := lt_all hg3
  have HA := Lib.hid ha
  have HU := Lib.hid hu
  have HT := Lib.hid hpt
  have HP := Lib.hid hpu
  clear ha hu hpt hpu
  go_enter Try.func16, Try.ntmps16
  go_wp2
  go_region_held3 (fun w' => blkD w' g = #[.pointer (some ⟨g3, 0, none⟩), .int .u8 x13, .int .u8 x14, .int .u8 41, .int .u32 x16, .string (strOfNums ts), .string (strOfNums us)] ∧ blkD w' g3 = #[.pointer (some ⟨g2, 0, none⟩), .int .u16 x9, .int .u16 x10, .int .u32 x11, .int .u32 x12] ∧ blkD w' g2 = #[.int .u16 x1, .int .u8 x2, .int .u16 x3, .int .u8 x4, .int .u16 x5, .int .u16 x6, .int .u8 x7, .int .u16 x8]) (first | (with_reducible assumption) | (simp [go_sem, *]; done))
    (first | (go_at_call 14; refine (tb3_any g3 g2 x1 x2 x3 x4 x5 x6 x7 x8 x9 x10 x11 x12 _ ?_ ?_ a1 b1 a3 b3 a5 b5 a6 b6 a8 b8 a9 b9 a10 b10 a11 b11 a12 b12).mono ?_; (simp [go_sem, *]); (simp [go_sem, *]); rintro e w1 ⟨rfl, rfl⟩))
  go_wp2
  go_region_held3 (fun w' => blkD w' g = #[.pointer (some ⟨g3, 0, none⟩), .int .u8 x13, .int .u8 x14, .int .u8 41, .int .u32 x16, .string (strOfNums ts), .string (strOfNums us)]) (first | (with_reducible assumption) | (simp [go_sem, *]; done))
    (first | (go_at_call 22; refine (le32_any _ _ _ _ _ ?_ ?_ ?_).mono ?_; omega; omega; (simp [go_sem]); rintro e w1 ⟨rfl, rfl⟩))
  go_wp2
  go_region_held3 (fun w' => blkD w' g = #[.pointer (some ⟨g3, 0, none⟩), .int .u8 x13, .int .u8 x14, .int .u8 41, .int .u32 x16, .string (strOfNums ts), .string (strOfNums us)]) (first | (with_reducible assumption) | (simp [go_sem, *]; done))
    (first | (go_at_call 24; refine (left_lit ts [t0, t1, t2, t3, t4, t5, t6, t7, t8, t9, t10] 11 _ HA.out (by omega) (by omega) HT.out).mono ?_; rintro e w1 ⟨rfl, o1, rfl⟩))
  go_wp2
  go_region_held3 (fun w' => blkD w' g = #[.pointer (some ⟨g3, 0, none⟩), .int .u8 x13, .int .u8 x14, .int .u8 41, .int .u32 x16, .string (strOfNums ts), .string (strOfNums us)]) (first | (with_reducible assumption) | (simp [go_sem, *]; done))
    (first | (go_at_call 24; refine (left_lit us [u0, u1, u2, u3, u4, u5, u6, u7] 8 _ HU.out (by omega) (by omega) HP.out).mono ?_; rintro e w1 ⟨rfl, o2, rfl⟩))
  go_wp2
  go_ret2
  refine ⟨rfl, by simp [go_sem], ?_⟩
  repeat (first | (with_reducible exact Below.refl _ _) | (with_reducible refine below_drewN ?_ _) | (with_reducible refine Below.drew ?_) | (with_reducible refine Below.alloc ?_ ?_ _))
  all_goals (simp <;> omega)
end Go.Proofs.Yteklgajjclldkaa
