/- Walk of impl.BpbBytes. -/
import Derived.Test.YteklgajjclldkaaTC
import Derived.Test.YteklgajjclldkaaF
import Derived.Test.YteklgajjclldkaaG
namespace Go.Proofs.Yteklgajjclldkaa
open Go.RowKit
attribute [local go_sem ↓] Go.wp_at_zero Go.wp_at_succ
set_option linter.unusedVariables false

set_option maxRecDepth 100000 in
set_option maxHeartbeats 4000000 in
theorem bb20_any (x1 x2 x3 x4 x5 x6 x7 x8 x9 x10 x11 x12 x13 x14 x15 x16 : Int) (s t : ByteArray) (w : World) (a1 : 0 ≤ x1) (b1 : x1 ≤ 65535) (a2 : 0 ≤ x2) (b2 : x2 ≤ 255) (a3 : 0 ≤ x3) (b3 : x3 ≤ 65535) (a4 : 0 ≤ x4) (b4 : x4 ≤ 255) (a5 : 0 ≤ x5) (b5 : x5 ≤ 65535) (a6 : 0 ≤ x6) (b6 : x6 ≤ 65535) (a7 : 0 ≤ x7) (b7 : x7 ≤ 255) (a8 : 0 ≤ x8) (b8 : x8 ≤ 65535) (a9 : 0 ≤ x9) (b9 : x9 ≤ 65535) (a10 : 0 ≤ x10) (b10 : x10 ≤ 65535) (a11 : 0 ≤ x11) (b11 : x11 ≤ 4294967295) (a12 : 0 ≤ x12) (b12 : x12 ≤ 4294967295) (a13 : 0 ≤ x13) (b13 : x13 ≤ 255) (a14 : 0 ≤ x14) (b14 : x14 ≤ 255) (a15 : 0 ≤ x15) (b15 : x15 ≤ 255) (a16 : 0 ≤ x16) (b16 : x16 ≤ 4294967295) :
    Calls Try.prog 5 #[.agg #[.int .i64 20, .int .i64 x1, .int .i64 x2, .int .i64 x3, .int .i64 x4, .int .i64 x5, .int .i64 x6, .int .i64 x7, .int .i64 x8, .int .i64 x9, .int .i64 x10, .int .i64 x11, .int .i64 x12, .int .i64 x13, .int .i64 x14, .int .i64 x15, .int .i64 x16, .string s, .string t]] w fun e w' => e = .returned (.tuple #[.string (strOfNums [(by0 x1), (by1 x1), x2, (by0 x3), (by1 x3), x4, (by0 x5), (by1 x5), (by0 x6), (by1 x6), x7, (by0 x8), (by1 x8)]), .bool true]) ∧ Below w.heap.size w w' := by
  go_enter Try.func5, Try.ntmps5
  go_wp2_with (first
    | (go_at_call 10; refine (fits_any 20 x1 x2 x3 x4 x5 x6 x7 x8 x9 x10 x11 x12 x13 x14 x15 x16 s t _ a1 b1 a2 b2 a3 b3 a4 b4 a5 b5 a6 b6 a7 b7 a8 b8 a9 b9 a10 b10 a11 b11 a12 b12 a13 b13 a14 b14 a15 b15 a16 b16).mono ?_; rintro e w1 ⟨rfl, rfl⟩)
    | (go_at_call 11; refine (two_any 20 x1 x2 x3 x4 x5 x6 x7 x8 x9 x10 x11 x12 x13 x14 x15 x16 s t _ a1 b1 a2 b2 a3 b3 a4 b4 a5 b5 a6 b6 a7 b7 a8 b8 a9 b9 a10 b10 a11 b11 a12 b12 a13 b13 a14 b14 a15 b15 a16 b16).mono ?_; rintro e w1 ⟨rfl, rfl⟩)
    | (go_at_call 12; refine (tb2_any _ x1 x2 x3 x4 x5 x6 x7 x8 _ ?_ a1 b1 a3 b3 a5 b5 a6 b6 a8 b8).mono ?_; (simp [go_sem, *]); rintro e w1 ⟨rfl, rfl⟩))
  go_ret2
  refine ⟨rfl, ?_⟩
  repeat (first | (with_reducible exact Below.refl _ _) | (with_reducible refine below_drewN ?_ _) | (with_reducible refine Below.drew ?_) | (with_reducible refine Below.alloc ?_ ?_ _))
  all_goals (simp <;> omega)

set_option maxRecDepth 100000 in
set_option maxHeartbeats 4000000 in
theorem bb331_any (x1 x2 x3 x4 x5 x6 x7 x8 x9 x10 x11 x12 x13 x14 x15 x16 : Int) (s t : ByteArray) (w : World) (a1 : 0 ≤ x1) (b1 : x1 ≤ 65535) (a2 : 0 ≤ x2) (b2 : x2 ≤ 255) (a3 : 0 ≤ x3) (b3 : x3 ≤ 65535) (a4 : 0 ≤ x4) (b4 : x4 ≤ 255) (a5 : 0 ≤ x5) (b5 : x5 ≤ 65535) (a6 : 0 ≤ x6) (b6 : x6 ≤ 65535) (a7 : 0 ≤ x7) (b7 : x7 ≤ 255) (a8 : 0 ≤ x8) (b8 : x8 ≤ 65535) (a9 : 0 ≤ x9) (b9 : x9 ≤ 65535) (a10 : 0 ≤ x10) (b10 : x10 ≤ 65535) (a11 : 0 ≤ x11) (b11 : x11 ≤ 4294967295) (a12 : 0 ≤ x12) (b12 : x12 ≤ 4294967295) (a13 : 0 ≤ x13) (b13 : x13 ≤ 255) (a14 : 0 ≤ x14) (b14 : x14 ≤ 255) (a15 : 0 ≤ x15) (b15 : x15 ≤ 255) (a16 : 0 ≤ x16) (b16 : x16 ≤ 4294967295) :
    Calls Try.prog 5 #[.agg #[.int .i64 331, .int .i64 x1, .int .i64 x2, .int .i64 x3, .int .i64 x4, .int .i64 x5, .int .i64 x6, .int .i64 x7, .int .i64 x8, .int .i64 x9, .int .i64 x10, .int .i64 x11, .int .i64 x12, .int .i64 x13, .int .i64 x14, .int .i64 x15, .int .i64 x16, .string s, .string t]] w fun e w' => e = .returned (.tuple #[.string (strOfNums [(by0 x1), (by1 x1), x2, (by0 x3), (by1 x3), x4, (by0 x5), (by1 x5), (by0 x6), (by1 x6), x7, (by0 x8), (by1 x8), (by0 x9), (by1 x9), (by0 x10), (by1 x10), (by0 x11), (by1 x11), (by2 x11), (by3 x11), (by0 x12), (by1 x12), (by2 x12), (by3 x12)]), .bool true]) ∧ Below w.heap.size w w' := by
  go_enter Try.func5, Try.ntmps5
  go_wp2_with (first
    | (go_at_call 10; refine (fits_any 331 x1 x2 x3 x4 x5 x6 x7 x8 x9 x10 x11 x12 x13 x14 x15 x16 s t _ a1 b1 a2 b2 a3 b3 a4 b4 a5 b5 a6 b6 a7 b7 a8 b8 a9 b9 a10 b10 a11 b11 a12 b12 a13 b13 a14 b14 a15 b15 a16 b16).mono ?_; rintro e w1 ⟨rfl, rfl⟩)
    | (go_at_call 13; refine (three_any 331 x1 x2 x3 x4 x5 x6 x7 x8 x9 x10 x11 x12 x13 x14 x15 x16 s t _ a1 b1 a2 b2 a3 b3 a4 b4 a5 b5 a6 b6 a7 b7 a8 b8 a9 b9 a10 b10 a11 b11 a12 b12 a13 b13 a14 b14 a15 b15 a16 b16).mono ?_; rintro e w1 ⟨rfl, rfl⟩)
    | (go_at_call 14; refine (tb3_any _ (w.heap.size + 1 + 1 + 1 + 1 + 1 + 1 + 1) x1 x2 x3 x4 x5 x6 x7 x8 x9 x10 x11 x12 _ ?_ ?_ a1 b1 a3 b3 a5 b5 a6 b6 a8 b8 a9 b9 a10 b10 a11 b11 a12 b12).mono ?_; (simp [go_sem, *]); (simp [go_sem, *]); rintro e w1 ⟨rfl, rfl⟩))
  go_ret2
  refine ⟨rfl, ?_⟩
  repeat (first | (with_reducible exact Below.refl _ _) | (with_reducible refine below_drewN ?_ _) | (with_reducible refine Below.drew ?_) | (with_reducible refine Below.alloc ?_ ?_ _))
  all_goals (simp <;> omega)

set_option maxRecDepth 100000 in
set_option maxHeartbeats 4000000 in
theorem bb40s_any (x1 x2 x3 x4 x5 x6 x7 x8 x9 x10 x11 x12 x13 x14 x16 : Int) (ts us : List Int) (w : World) (a1 : 0 ≤ x1) (b1 : x1 ≤ 65535) (a2 : 0 ≤ x2) (b2 : x2 ≤ 255) (a3 : 0 ≤ x3) (b3 : x3 ≤ 65535) (a4 : 0 ≤ x4) (b4 : x4 ≤ 255) (a5 : 0 ≤ x5) (b5 : x5 ≤ 65535) (a6 : 0 ≤ x6) (b6 : x6 ≤ 65535) (a7 : 0 ≤ x7) (b7 : x7 ≤ 255) (a8 : 0 ≤ x8) (b8 : x8 ≤ 65535) (a9 : 0 ≤ x9) (b9 : x9 ≤ 65535) (a10 : 0 ≤ x10) (b10 : x10 ≤ 65535) (a11 : 0 ≤ x11) (b11 : x11 ≤ 4294967295) (a12 : 0 ≤ x12) (b12 : x12 ≤ 4294967295) (a13 : 0 ≤ x13) (b13 : x13 ≤ 255) (a14 : 0 ≤ x14) (b14 : x14 ≤ 255) (a16 : 0 ≤ x16) (b16 : x16 ≤ 4294967295) :
    Calls Try.prog 5 #[.agg #[.int .i64 40, .int .i64 x1, .int .i64 x2, .int .i64 x3, .int .i64 x4, .int .i64 x5, .int .i64 x6, .int .i64 x7, .int .i64 x8, .int .i64 x9, .int .i64 x10, .int .i64 x11, .int .i64 x12, .int .i64 x13, .int .i64 x14, .int .i64 40, .int .i64 x16, .string (strOfNums ts), .string (strOfNums us)]] w fun e w' => e = .returned (.tuple #[.string (strOfNums [(by0 x1), (by1 x1), x2, (by0 x3), (by1 x3), x4, (by0 x5), (by1 x5), (by0 x6), (by1 x6), x7, (by0 x8), (by1 x8), (by0 x9), (by1 x9), (by0 x10), (by1 x10), (by0 x11), (by1 x11), (by2 x11), (by3 x11), (by0 x12), (by1 x12), (by2 x12), (by3 x12), x13, x14, 40, (by0 x16), (by1 x16), (by2 x16), (by3 x16)]), .bool true]) ∧ Below w.heap.size w w' := by
  go_enter Try.func5, Try.ntmps5
  go_wp2_with (first
    | (go_at_call 10; refine (fits_any 40 x1 x2 x3 x4 x5 x6 x7 x8 x9 x10 x11 x12 x13 x14 40 x16 (strOfNums ts) (strOfNums us) _ a1 b1 a2 b2 a3 b3 a4 b4 a5 b5 a6 b6 a7 b7 a8 b8 a9 b9 a10 b10 a11 b11 a12 b12 a13 b13 a14 b14 (by omega) (by omega) a16 b16).mono ?_; rintro e w1 ⟨rfl, rfl⟩)
    | (go_at_call 15; refine (four_any 40 x1 x2 x3 x4 x5 x6 x7 x8 x9 x10 x11 x12 x13 x14 40 x16 (strOfNums ts) (strOfNums us) _ a1 b1 a2 b2 a3 b3 a4 b4 a5 b5 a6 b6 a7 b7 a8 b8 a9 b9 a10 b10 a11 b11 a12 b12 a13 b13 a14 b14 (by omega) (by omega) a16 b16).mono ?_; rintro e w1 ⟨rfl, rfl⟩)
    | (go_at_call 16; refine (tb4_short _ (w.heap.size + 1 + 1 + 1 + 1 + 1 + 1 + 1 + 1) (w.heap.size + 1 + 1 + 1 + 1 + 1 + 1 + 1 + 1 + 1) x1 x2 x3 x4 x5 x6 x7 x8 x9 x10 x11 x12 x13 x14 x16 ts us _ ?_ ?_ ?_ a1 b1 a3 b3 a5 b5 a6 b6 a8 b8 a9 b9 a10 b10 a11 b11 a12 b12 a16 b16).mono ?_; (simp [go_sem, *]); (simp [go_sem, *]); (simp [go_sem, *]); rintro e w1 ⟨rfl, hblk, hb⟩; simp only [World.size_alloc, World.size_drew] at hblk))
  go_region_held3 (fun w' => blkD w' (w.heap.size + 1 + 1 + 1 + 1 + 1 + 1 + 1 + 1 + 1 + 1 + 1) = #[.int .u8 (by0 x1), .int .u8 (by1 x1), .int .u8 x2, .int .u8 (by0 x3), .int .u8 (by1 x3), .int .u8 x4, .int .u8 (by0 x5), .int .u8 (by1 x5), .int .u8 (by0 x6), .int .u8 (by1 x6), .int .u8 x7, .int .u8 (by0 x8), .int .u8 (by1 x8), .int .u8 (by0 x9), .int .u8 (by1 x9), .int .u8 (by0 x10), .int .u8 (by1 x10), .int .u8 (by0 x11), .int .u8 (by1 x11), .int .u8 (by2 x11), .int .u8 (by3 x11), .int .u8 (by0 x12), .int .u8 (by1 x12), .int .u8 (by2 x12), .int .u8 (by3 x12), .int .u8 x13, .int .u8 x14, .int .u8 40, .int .u8 (by0 x16), .int .u8 (by1 x16), .int .u8 (by2 x16), .int .u8 (by3 x16)]) (first | (with_reducible assumption) | (simp [go_sem, *]; done)) (fail)
  go_wp2
  go_ret2
  refine ⟨rfl, ?_⟩
  refine Below.drew (Below.trans ?_ (hb.mono ?_))
  · repeat (first | (with_reducible exact Below.refl _ _) | (with_reducible refine below_drewN ?_ _) | (with_reducible refine Below.drew ?_) | (with_reducible refine Below.alloc ?_ ?_ _))
    all_goals (simp <;> omega)
  · simp <;> omega
set_option maxRecDepth 100000 in
set_option maxHeartbeats 4000000 in
theorem bb40l_any (x1 x2 x3 x4 x5 x6 x7 x8 x9 x10 x11 x12 x13 x14 x16 t0 t1 t2 t3 t4 t5 t6 t7 t8 t9 t10 u0 u1 u2 u3 u4 u5 u6 u7 : Int) (ts us : List Int) (w : World) (ha : Asc ts) (hu : Asc us) (hta : ts.length ≤ 11) (hua : us.length ≤ 8) (hpt : padL ts 11 = [t0, t1, t2, t3, t4, t5, t6, t7, t8, t9, t10]) (hpu : padL us 8 = [u0, u1, u2, u3, u4, u5, u6, u7]) (e0 : inByte t0 = true) (e1 : inByte t1 = true) (e2 : inByte t2 = true) (e3 : inByte t3 = true) (e4 : inByte t4 = true) (e5 : inByte t5 = true) (e6 : inByte t6 = true) (e7 : inByte t7 = true) (e8 : inByte t8 = true) (e9 : inByte t9 = true) (e10 : inByte t10 = true) (f0 : inByte u0 = true) (f1 : inByte u1 = true) (f2 : inByte u2 = true) (f3 : inByte u3 = true) (f4 : inByte u4 = true) (f5 : inByte u5 = true) (f6 : inByte u6 = true) (f7 : inByte u7 = true) (a1 : 0 ≤ x1) (b1 : x1 ≤ 65535) (a2 : 0 ≤ x2) (b2 : x2 ≤ 255) (a3 : 0 ≤ x3) (b3 : x3 ≤ 65535) (a4 : 0 ≤ x4) (b4 : x4 ≤ 255) (a5 : 0 ≤ x5) (b5 : x5 ≤ 65535) (a6 : 0 ≤ x6) (b6 : x6 ≤ 65535) (a7 : 0 ≤ x7) (b7 : x7 ≤ 255) (a8 : 0 ≤ x8) (b8 : x8 ≤ 65535) (a9 : 0 ≤ x9) (b9 : x9 ≤ 65535) (a10 : 0 ≤ x10) (b10 : x10 ≤ 65535) (a11 : 0 ≤ x11) (b11 : x11 ≤ 4294967295) (a12 : 0 ≤ x12) (b12 : x12 ≤ 4294967295) (a13 : 0 ≤ x13) (b13 : x13 ≤ 255) (a14 : 0 ≤ x14) (b14 : x14 ≤ 255) (a16 : 0 ≤ x16) (b16 : x16 ≤ 4294967295) :
    Calls Try.prog 5 #[.agg #[.int .i64 40, .int .i64 x1, .int .i64 x2, .int .i64 x3, .int .i64 x4, .int .i64 x5, .int .i64 x6, .int .i64 x7, .int .i64 x8, .int .i64 x9, .int .i64 x10, .int .i64 x11, .int .i64 x12, .int .i64 x13, .int .i64 x14, .int .i64 41, .int .i64 x16, .string (strOfNums ts), .string (strOfNums us)]] w fun e w' => e = .returned (.tuple #[.string (strOfNums [(by0 x1), (by1 x1), x2, (by0 x3), (by1 x3), x4, (by0 x5), (by1 x5), (by0 x6), (by1 x6), x7, (by0 x8), (by1 x8), (by0 x9), (by1 x9), (by0 x10), (by1 x10), (by0 x11), (by1 x11), (by2 x11), (by3 x11), (by0 x12), (by1 x12), (by2 x12), (by3 x12), x13, x14, 41, (by0 x16), (by1 x16), (by2 x16), (by3 x16), t0, t1, t2, t3, t4, t5, t6, t7, t8, t9, t10, u0, u1, u2, u3, u4, u5, u6, u7]), .bool true]) ∧ Below w.heap.size w w' := by
  have HA := Lib.hid ha
  have HU := Lib.hid hu
  have HT := Lib.hid hpt
  have HP := Lib.hid hpu
  clear ha hu hpt hpu
  go_enter Try.func5, Try.ntmps5
  go_wp2_with (first
    | (go_at_call 10; refine (fits_any 40 x1 x2 x3 x4 x5 x6 x7 x8 x9 x10 x11 x12 x13 x14 41 x16 (strOfNums ts) (strOfNums us) _ a1 b1 a2 b2 a3 b3 a4 b4 a5 b5 a6 b6 a7 b7 a8 b8 a9 b9 a10 b10 a11 b11 a12 b12 a13 b13 a14 b14 (by omega) (by omega) a16 b16).mono ?_; rintro e w1 ⟨rfl, rfl⟩)
    | (go_at_call 15; refine (four_any 40 x1 x2 x3 x4 x5 x6 x7 x8 x9 x10 x11 x12 x13 x14 41 x16 (strOfNums ts) (strOfNums us) _ a1 b1 a2 b2 a3 b3 a4 b4 a5 b5 a6 b6 a7 b7 a8 b8 a9 b9 a10 b10 a11 b11 a12 b12 a13 b13 a14 b14 (by omega) (by omega) a16 b16).mono ?_; rintro e w1 ⟨rfl, rfl⟩)
    | (go_at_call 16; refine (tb4_long _ (w.heap.size + 1 + 1 + 1 + 1 + 1 + 1 + 1 + 1) (w.heap.size + 1 + 1 + 1 + 1 + 1 + 1 + 1 + 1 + 1) x1 x2 x3 x4 x5 x6 x7 x8 x9 x10 x11 x12 x13 x14 x16 t0 t1 t2 t3 t4 t5 t6 t7 t8 t9 t10 u0 u1 u2 u3 u4 u5 u6 u7 ts us _ HA.out HU.out hta hua HT.out HP.out e0 e1 e2 e3 e4 e5 e6 e7 e8 e9 e10 f0 f1 f2 f3 f4 f5 f6 f7 ?_ ?_ ?_ a1 b1 a3 b3 a5 b5 a6 b6 a8 b8 a9 b9 a10 b10 a11 b11 a12 b12 a16 b16).mono ?_; (simp [go_sem, *]); (simp [go_sem, *]); (simp [go_sem, *]); rintro e w1 ⟨rfl, hblk, hb⟩; simp only [World.size_alloc, World.size_drew] at hblk))
  go_region_held3 (fun w' => blkD w' (w.heap.size + 1 + 1 + 1 + 1 + 1 + 1 + 1 + 1 + 1 + 1 + 1) = #[.int .u8 (by0 x1), .int .u8 (by1 x1), .int .u8 x2, .int .u8 (by0 x3), .int .u8 (by1 x3), .int .u8 x4, .int .u8 (by0 x5), .int .u8 (by1 x5), .int .u8 (by0 x6), .int .u8 (by1 x6), .int .u8 x7, .int .u8 (by0 x8), .int .u8 (by1 x8), .int .u8 (by0 x9), .int .u8 (by1 x9), .int .u8 (by0 x10), .int .u8 (by1 x10), .int .u8 (by0 x11), .int .u8 (by1 x11), .int .u8 (by2 x11), .int .u8 (by3 x11), .int .u8 (by0 x12), .int .u8 (by1 x12), .int .u8 (by2 x12), .int .u8 (by3 x12), .int .u8 x13, .int .u8 x14, .int .u8 41, .int .u8 (by0 x16), .int .u8 (by1 x16), .int .u8 (by2 x16), .int .u8 (by3 x16), .int .u8 t0, .int .u8 t1, .int .u8 t2, .int .u8 t3, .int .u8 t4, .int .u8 t5, .int .u8 t6, .int .u8 t7, .int .u8 t8, .int .u8 t9, .int .u8 t10, .int .u8 u0, .int .u8 u1, .int .u8 u2, .int .u8 u3, .int .u8 u4, .int .u8 u5, .int .u8 u6, .int .u8 u7]) (first | (with_reducible assumption) | (simp [go_sem, *]; done)) (fail)
  go_wp2
  go_ret2
  refine ⟨rfl, ?_⟩
  refine Below.drew (Below.trans ?_ (hb.mono ?_))
  · repeat (first | (with_reducible exact Below.refl _ _) | (with_reducible refine below_drewN ?_ _) | (with_reducible refine Below.drew ?_) | (with_reducible refine Below.alloc ?_ ?_ _))
    all_goals (simp <;> omega)
  · simp <;> omega
end Go.Proofs.Yteklgajjclldkaa
