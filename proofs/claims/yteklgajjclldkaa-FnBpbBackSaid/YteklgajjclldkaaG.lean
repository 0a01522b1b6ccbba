/- Walks of two, three and four: the structs that they make. -/
import Derived.Test.YteklgajjclldkaaInst
import Derived.Deep.DrawnRows
namespace Go.Proofs.Yteklgajjclldkaa
open Go.RowKit
attribute [local go_sem ↓] Go.wp_at_zero Go.wp_at_succ
set_option linter.unusedVariables false

set_option maxRecDepth 100000 in
set_option maxHeartbeats 2000000 in
theorem two_any (x0 x1 x2 x3 x4 x5 x6 x7 x8 x9 x10 x11 x12 x13 x14 x15 x16 : Int) (s t : ByteArray) (w : World) (a1 : 0 ≤ x1) (b1 : x1 ≤ 65535) (a2 : 0 ≤ x2) (b2 : x2 ≤ 255) (a3 : 0 ≤ x3) (b3 : x3 ≤ 65535) (a4 : 0 ≤ x4) (b4 : x4 ≤ 255) (a5 : 0 ≤ x5) (b5 : x5 ≤ 65535) (a6 : 0 ≤ x6) (b6 : x6 ≤ 65535) (a7 : 0 ≤ x7) (b7 : x7 ≤ 255) (a8 : 0 ≤ x8) (b8 : x8 ≤ 65535) (a9 : 0 ≤ x9) (b9 : x9 ≤ 65535) (a10 : 0 ≤ x10) (b10 : x10 ≤ 65535) (a11 : 0 ≤ x11) (b11 : x11 ≤ 4294967295) (a12 : 0 ≤ x12) (b12 : x12 ≤ 4294967295) (a13 : 0 ≤ x13) (b13 : x13 ≤ 255) (a14 : 0 ≤ x14) (b14 : x14 ≤ 255) (a15 : 0 ≤ x15) (b15 : x15 ≤ 255) (a16 : 0 ≤ x16) (b16 : x16 ≤ 4294967295) :
    Calls Try.prog 11 #[.agg #[.int .i64 x0, .int .i64 x1, .int .i64 x2, .int .i64 x3, .int .i64 x4, .int .i64 x5, .int .i64 x6, .int .i64 x7, .int .i64 x8, .int .i64 x9, .int .i64 x10, .int .i64 x11, .int .i64 x12, .int .i64 x13, .int .i64 x14, .int .i64 x15, .int .i64 x16, .string s, .string t]] w fun e w' => e = .returned (.pointer (some ⟨w.heap.size + 1, 0, none⟩)) ∧ w' = (w.alloc (.cells #[.int .i64 x0, .int .i64 x1, .int .i64 x2, .int .i64 x3, .int .i64 x4, .int .i64 x5, .int .i64 x6, .int .i64 x7, .int .i64 x8, .int .i64 x9, .int .i64 x10, .int .i64 x11, .int .i64 x12, .int .i64 x13, .int .i64 x14, .int .i64 x15, .int .i64 x16, .string s, .string t] 25)).alloc (.cells #[.int .u16 x1, .int .u8 x2, .int .u16 x3, .int .u8 x4, .int .u16 x5, .int .u16 x6, .int .u8 x7, .int .u16 x8] 62) := by
  go_enter Try.func11, Try.ntmps11
  go_wp2
  go_ret
  exact ⟨rfl, rfl⟩

set_option maxRecDepth 100000 in
set_option maxHeartbeats 2000000 in
theorem three_any (x0 x1 x2 x3 x4 x5 x6 x7 x8 x9 x10 x11 x12 x13 x14 x15 x16 : Int) (s t : ByteArray) (w : World) (a1 : 0 ≤ x1) (b1 : x1 ≤ 65535) (a2 : 0 ≤ x2) (b2 : x2 ≤ 255) (a3 : 0 ≤ x3) (b3 : x3 ≤ 65535) (a4 : 0 ≤ x4) (b4 : x4 ≤ 255) (a5 : 0 ≤ x5) (b5 : x5 ≤ 65535) (a6 : 0 ≤ x6) (b6 : x6 ≤ 65535) (a7 : 0 ≤ x7) (b7 : x7 ≤ 255) (a8 : 0 ≤ x8) (b8 : x8 ≤ 65535) (a9 : 0 ≤ x9) (b9 : x9 ≤ 65535) (a10 : 0 ≤ x10) (b10 : x10 ≤ 65535) (a11 : 0 ≤ x11) (b11 : x11 ≤ 4294967295) (a12 : 0 ≤ x12) (b12 : x12 ≤ 4294967295) (a13 : 0 ≤ x13) (b13 : x13 ≤ 255) (a14 : 0 ≤ x14) (b14 : x14 ≤ 255) (a15 : 0 ≤ x15) (b15 : x15 ≤ 255) (a16 : 0 ≤ x16) (b16 : x16 ≤ 4294967295) :
    Calls Try.prog 13 #[.agg #[.int .i64 x0, .int .i64 x1, .int .i64 x2, .int .i64 x3, .int .i64 x4, .int .i64 x5, .int .i64 x6, .int .i64 x7, .int .i64 x8, .int .i64 x9, .int .i64 x10, .int .i64 x11, .int .i64 x12, .int .i64 x13, .int .i64 x14, .int .i64 x15, .int .i64 x16, .string s, .string t]] w fun e w' => e = .returned (.pointer (some ⟨w.heap.size + 1 + 1 + 1, 0, none⟩)) ∧ w' = ((((w.alloc (.cells #[.int .i64 x0, .int .i64 x1, .int .i64 x2, .int .i64 x3, .int .i64 x4, .int .i64 x5, .int .i64 x6, .int .i64 x7, .int .i64 x8, .int .i64 x9, .int .i64 x10, .int .i64 x11, .int .i64 x12, .int .i64 x13, .int .i64 x14, .int .i64 x15, .int .i64 x16, .string s, .string t] 25)).alloc (.cells #[.int .i64 x0, .int .i64 x1, .int .i64 x2, .int .i64 x3, .int .i64 x4, .int .i64 x5, .int .i64 x6, .int .i64 x7, .int .i64 x8, .int .i64 x9, .int .i64 x10, .int .i64 x11, .int .i64 x12, .int .i64 x13, .int .i64 x14, .int .i64 x15, .int .i64 x16, .string s, .string t] 25)).alloc (.cells #[.int .u16 x1, .int .u8 x2, .int .u16 x3, .int .u8 x4, .int .u16 x5, .int .u16 x6, .int .u8 x7, .int .u16 x8] 62)).alloc (.cells #[.pointer (some ⟨w.heap.size + 1 + 1, 0, none⟩), .int .u16 x9, .int .u16 x10, .int .u32 x11, .int .u32 x12] 67)).drew := by
  go_enter Try.func13, Try.ntmps13
  go_wp2
  go_region_held3 (fun w' => blkD w' w.heap.size = #[.int .i64 x0, .int .i64 x1, .int .i64 x2, .int .i64 x3, .int .i64 x4, .int .i64 x5, .int .i64 x6, .int .i64 x7, .int .i64 x8, .int .i64 x9, .int .i64 x10, .int .i64 x11, .int .i64 x12, .int .i64 x13, .int .i64 x14, .int .i64 x15, .int .i64 x16, .string s, .string t]) (first | (with_reducible assumption) | (simp [go_sem]; done)) (first | (go_at_call 11; refine (two_any x0 x1 x2 x3 x4 x5 x6 x7 x8 x9 x10 x11 x12 x13 x14 x15 x16 s t _ a1 b1 a2 b2 a3 b3 a4 b4 a5 b5 a6 b6 a7 b7 a8 b8 a9 b9 a10 b10 a11 b11 a12 b12 a13 b13 a14 b14 a15 b15 a16 b16).mono ?_; rintro e w1 ⟨rfl, rfl⟩))
  go_wp2
  go_ret
  refine ⟨rfl, ?_⟩
  rw [IntWalk.u16_in x9 (by omega), IntWalk.u16_in x10 (by omega), IntWalk.u32_in x11 (by omega), IntWalk.u32_in x12 (by omega)]

set_option maxRecDepth 100000 in
set_option maxHeartbeats 2000000 in
theorem four_any (x0 x1 x2 x3 x4 x5 x6 x7 x8 x9 x10 x11 x12 x13 x14 x15 x16 : Int) (s t : ByteArray) (w : World) (a1 : 0 ≤ x1) (b1 : x1 ≤ 65535) (a2 : 0 ≤ x2) (b2 : x2 ≤ 255) (a3 : 0 ≤ x3) (b3 : x3 ≤ 65535) (a4 : 0 ≤ x4) (b4 : x4 ≤ 255) (a5 : 0 ≤ x5) (b5 : x5 ≤ 65535) (a6 : 0 ≤ x6) (b6 : x6 ≤ 65535) (a7 : 0 ≤ x7) (b7 : x7 ≤ 255) (a8 : 0 ≤ x8) (b8 : x8 ≤ 65535) (a9 : 0 ≤ x9) (b9 : x9 ≤ 65535) (a10 : 0 ≤ x10) (b10 : x10 ≤ 65535) (a11 : 0 ≤ x11) (b11 : x11 ≤ 4294967295) (a12 : 0 ≤ x12) (b12 : x12 ≤ 4294967295) (a13 : 0 ≤ x13) (b13 : x13 ≤ 255) (a14 : 0 ≤ x14) (b14 : x14 ≤ 255) (a15 : 0 ≤ x15) (b15 : x15 ≤ 255) (a16 : 0 ≤ x16) (b16 : x16 ≤ 4294967295) :
    Calls Try.prog 15 #[.agg #[.int .i64 x0, .int .i64 x1, .int .i64 x2, .int .i64 x3, .int .i64 x4, .int .i64 x5, .int .i64 x6, .int .i64 x7, .int .i64 x8, .int .i64 x9, .int .i64 x10, .int .i64 x11, .int .i64 x12, .int .i64 x13, .int .i64 x14, .int .i64 x15, .int .i64 x16, .string s, .string t]] w fun e w' => e = .returned (.pointer (some ⟨w.heap.size + 1 + 1 + 1 + 1 + 1, 0, none⟩)) ∧ w' = ((((((w.alloc (.cells #[.int .i64 x0, .int .i64 x1, .int .i64 x2, .int .i64 x3, .int .i64 x4, .int .i64 x5, .int .i64 x6, .int .i64 x7, .int .i64 x8, .int .i64 x9, .int .i64 x10, .int .i64 x11, .int .i64 x12, .int .i64 x13, .int .i64 x14, .int .i64 x15, .int .i64 x16, .string s, .string t] 25)).alloc (.cells #[.int .i64 x0, .int .i64 x1, .int .i64 x2, .int .i64 x3, .int .i64 x4, .int .i64 x5, .int .i64 x6, .int .i64 x7, .int .i64 x8, .int .i64 x9, .int .i64 x10, .int .i64 x11, .int .i64 x12, .int .i64 x13, .int .i64 x14, .int .i64 x15, .int .i64 x16, .string s, .string t] 25)).alloc (.cells #[.int .i64 x0, .int .i64 x1, .int .i64 x2, .int .i64 x3, .int .i64 x4, .int .i64 x5, .int .i64 x6, .int .i64 x7, .int .i64 x8, .int .i64 x9, .int .i64 x10, .int .i64 x11, .int .i64 x12, .int .i64 x13, .int .i64 x14, .int .i64 x15, .int .i64 x16, .string s, .string t] 25)).alloc (.cells #[.int .u16 x1, .int .u8 x2, .int .u16 x3, .int .u8 x4, .int .u16 x5, .int .u16 x6, .int .u8 x7, .int .u16 x8] 62)).alloc (.cells #[.pointer (some ⟨w.heap.size + 1 + 1 + 1, 0, none⟩), .int .u16 x9, .int .u16 x10, .int .u32 x11, .int .u32 x12] 67)).alloc (.cells #[.pointer (some ⟨w.heap.size + 1 + 1 + 1 + 1, 0, none⟩), .int .u8 x13, .int .u8 x14, .int .u8 x15, .int .u32 x16, .string s, .string t] 57)).drew.drew := by
  go_enter Try.func15, Try.ntmps15
  go_wp2
  go_region_held3 (fun w' => blkD w' w.heap.size = #[.int .i64 x0, .int .i64 x1, .int .i64 x2, .int .i64 x3, .int .i64 x4, .int .i64 x5, .int .i64 x6, .int .i64 x7, .int .i64 x8, .int .i64 x9, .int .i64 x10, .int .i64 x11, .int .i64 x12, .int .i64 x13, .int .i64 x14, .int .i64 x15, .int .i64 x16, .string s, .string t]) (first | (with_reducible assumption) | (simp [go_sem]; done)) (first | (go_at_call 13; refine (three_any x0 x1 x2 x3 x4 x5 x6 x7 x8 x9 x10 x11 x12 x13 x14 x15 x16 s t _ a1 b1 a2 b2 a3 b3 a4 b4 a5 b5 a6 b6 a7 b7 a8 b8 a9 b9 a10 b10 a11 b11 a12 b12 a13 b13 a14 b14 a15 b15 a16 b16).mono ?_; rintro e w1 ⟨rfl, rfl⟩))
  go_wp2
  go_ret
  refine ⟨rfl, ?_⟩
  rw [IntWalk.u8_in x13 (by omega), IntWalk.u8_in x14 (by omega), IntWalk.u8_in x15 (by omega), IntWalk.u32_in x16 (by omega)]
end Go.Proofs.Yteklgajjclldkaa
