/- Walk of Dos331BPB.Equal: the first field that parts, or none. -/
import Derived.Test.YthocgjaloflclaaInst
import Derived.Test.YthocgjaloflclaaEq
import Derived.Deep.DrawnRows
namespace Go.Proofs.Ythocgjaloflclaa
open Go.RowKit
attribute [local go_sem ↓] Go.wp_at_zero Go.wp_at_succ
set_option linter.unusedVariables false

set_option maxRecDepth 100000 in
set_option maxHeartbeats 2000000 in
theorem equal_all (p q p' q' : Nat) (x1 x2 x3 x4 x5 x6 x7 x8 x9 x10 x11 x12 y1 y2 y3 y4 y5 y6 y7 y8 : Int) (w : World) (h8 : eq8 x1 x2 x3 x4 x5 x6 x7 x8 y1 y2 y3 y4 y5 y6 y7 y8 = true)
    (hp : blkD w p = #[.pointer (some ⟨q, 0, none⟩), .int .u16 x9, .int .u16 x10, .int .u32 x11, .int .u32 x12]) (hq : blkD w q = #[.int .u16 x1, .int .u8 x2, .int .u16 x3, .int .u8 x4, .int .u16 x5, .int .u16 x6, .int .u8 x7, .int .u16 x8])
    (hp' : blkD w p' = #[.pointer (some ⟨q', 0, none⟩), .int .u16 x9, .int .u16 x10, .int .u32 x11, .int .u32 x12]) (hq' : blkD w q' = #[.int .u16 y1, .int .u8 y2, .int .u16 y3, .int .u8 y4, .int .u16 y5, .int .u16 y6, .int .u8 y7, .int .u16 y8]) :
    Calls Try.prog 14 #[.pointer (some ⟨p, 0, none⟩), .pointer (some ⟨p', 0, none⟩)] w fun e w' => e = .returned (.bool true) ∧ ∃ n, w' = w.drewN n := by
  go_enter Try.func14, Try.ntmps14
  go_wp2
  simp only [List.append_eq, List.cons_append, List.nil_append]
  go_quiet (fail)
  go_wp2
  go_ret
  exact ⟨rfl, _, rfl⟩
set_option maxRecDepth 100000 in
set_option maxHeartbeats 2000000 in
theorem equal_no8 (p q p' q' : Nat) (x1 x2 x3 x4 x5 x6 x7 x8 x9 x10 x11 x12 y1 y2 y3 y4 y5 y6 y7 y8 y9 y10 y11 y12 : Int) (w : World) (h8 : eq8 x1 x2 x3 x4 x5 x6 x7 x8 y1 y2 y3 y4 y5 y6 y7 y8 = false)
    (hp : blkD w p = #[.pointer (some ⟨q, 0, none⟩), .int .u16 x9, .int .u16 x10, .int .u32 x11, .int .u32 x12]) (hq : blkD w q = #[.int .u16 x1, .int .u8 x2, .int .u16 x3, .int .u8 x4, .int .u16 x5, .int .u16 x6, .int .u8 x7, .int .u16 x8])
    (hp' : blkD w p' = #[.pointer (some ⟨q', 0, none⟩), .int .u16 y9, .int .u16 y10, .int .u32 y11, .int .u32 y12]) (hq' : blkD w q' = #[.int .u16 y1, .int .u8 y2, .int .u16 y3, .int .u8 y4, .int .u16 y5, .int .u16 y6, .int .u8 y7, .int .u16 y8]) :
    Calls Try.prog 14 #[.pointer (some ⟨p, 0, none⟩), .pointer (some ⟨p', 0, none⟩)] w fun e w' => e = .returned (.bool false) ∧ ∃ n, w' = w.drewN n := by
  go_enter Try.func14, Try.ntmps14
  go_wp2
  simp only [List.append_eq, List.cons_append, List.nil_append]
  go_quiet (fail)
  go_wp2
  go_ret
  exact ⟨rfl, _, rfl⟩
set_option maxRecDepth 100000 in
set_option maxHeartbeats 2000000 in
theorem equal_no9 (p q p' q' : Nat) (x1 x2 x3 x4 x5 x6 x7 x8 x9 x10 x11 x12 y1 y2 y3 y4 y5 y6 y7 y8 y9 y10 y11 y12 : Int) (w : World) (h8 : eq8 x1 x2 x3 x4 x5 x6 x7 x8 y1 y2 y3 y4 y5 y6 y7 y8 = true) (hne : (x9 == y9) = false)
    (hp : blkD w p = #[.pointer (some ⟨q, 0, none⟩), .int .u16 x9, .int .u16 x10, .int .u32 x11, .int .u32 x12]) (hq : blkD w q = #[.int .u16 x1, .int .u8 x2, .int .u16 x3, .int .u8 x4, .int .u16 x5, .int .u16 x6, .int .u8 x7, .int .u16 x8])
    (hp' : blkD w p' = #[.pointer (some ⟨q', 0, none⟩), .int .u16 y9, .int .u16 y10, .int .u32 y11, .int .u32 y12]) (hq' : blkD w q' = #[.int .u16 y1, .int .u8 y2, .int .u16 y3, .int .u8 y4, .int .u16 y5, .int .u16 y6, .int .u8 y7, .int .u16 y8]) :
    Calls Try.prog 14 #[.pointer (some ⟨p, 0, none⟩), .pointer (some ⟨p', 0, none⟩)] w fun e w' => e = .returned (.bool false) ∧ ∃ n, w' = w.drewN n := by
  go_enter Try.func14, Try.ntmps14
  go_wp2
  simp only [List.append_eq, List.cons_append, List.nil_append]
  go_quiet (fail)
  go_wp2
  go_ret
  exact ⟨rfl, _, rfl⟩
set_option maxRecDepth 100000 in
set_option maxHeartbeats 2000000 in
theorem equal_no10 (p q p' q' : Nat) (x1 x2 x3 x4 x5 x6 x7 x8 x9 x10 x11 x12 y1 y2 y3 y4 y5 y6 y7 y8 y10 y11 y12 : Int) (w : World) (h8 : eq8 x1 x2 x3 x4 x5 x6 x7 x8 y1 y2 y3 y4 y5 y6 y7 y8 = true) (hne : (x10 == y10) = false)
    (hp : blkD w p = #[.pointer (some ⟨q, 0, none⟩), .int .u16 x9, .int .u16 x10, .int .u32 x11, .int .u32 x12]) (hq : blkD w q = #[.int .u16 x1, .int .u8 x2, .int .u16 x3, .int .u8 x4, .int .u16 x5, .int .u16 x6, .int .u8 x7, .int .u16 x8])
    (hp' : blkD w p' = #[.pointer (some ⟨q', 0, none⟩), .int .u16 x9, .int .u16 y10, .int .u32 y11, .int .u32 y12]) (hq' : blkD w q' = #[.int .u16 y1, .int .u8 y2, .int .u16 y3, .int .u8 y4, .int .u16 y5, .int .u16 y6, .int .u8 y7, .int .u16 y8]) :
    Calls Try.prog 14 #[.pointer (some ⟨p, 0, none⟩), .pointer (some ⟨p', 0, none⟩)] w fun e w' => e = .returned (.bool false) ∧ ∃ n, w' = w.drewN n := by
  go_enter Try.func14, Try.ntmps14
  go_wp2
  simp only [List.append_eq, List.cons_append, List.nil_append]
  go_quiet (fail)
  go_wp2
  go_ret
  exact ⟨rfl, _, rfl⟩
set_option maxRecDepth 100000 in
set_option maxHeartbeats 2000000 in
theorem equal_no11 (p q p' q' : Nat) (x1 x2 x3 x4 x5 x6 x7 x8 x9 x10 x11 x12 y1 y2 y3 y4 y5 y6 y7 y8 y11 y12 : Int) (w : World) (h8 : eq8 x1 x2 x3 x4 x5 x6 x7 x8 y1 y2 y3 y4 y5 y6 y7 y8 = true) (hne : (x11 == y11) = false)
    (hp : blkD w p = #[.pointer (some ⟨q, 0, none⟩), .int .u16 x9, .int .u16 x10, .int .u32 x11, .int .u32 x12]) (hq : blkD w q = #[.int .u16 x1, .int .u8 x2, .int .u16 x3, .int .u8 x4, .int .u16 x5, .int .u16 x6, .int .u8 x7, .int .u16 x8])
    (hp' : blkD w p' = #[.pointer (some ⟨q', 0, none⟩), .int .u16 x9, .int .u16 x10, .int .u32 y11, .int .u32 y12]) (hq' : blkD w q' = #[.int .u16 y1, .int .u8 y2, .int .u16 y3, .int .u8 y4, .int .u16 y5, .int .u16 y6, .int .u8 y7, .int .u16 y8]) :
    Calls Try.prog 14 #[.pointer (some ⟨p, 0, none⟩), .pointer (some ⟨p', 0, none⟩)] w fun e w' => e = .returned (.bool false) ∧ ∃ n, w' = w.drewN n := by
  go_enter Try.func14, Try.ntmps14
  go_wp2
  simp only [List.append_eq, List.cons_append, List.nil_append]
  go_quiet (fail)
  go_wp2
  go_ret
  exact ⟨rfl, _, rfl⟩
set_option maxRecDepth 100000 in
set_option maxHeartbeats 2000000 in
theorem equal_no12 (p q p' q' : Nat) (x1 x2 x3 x4 x5 x6 x7 x8 x9 x10 x11 x12 y1 y2 y3 y4 y5 y6 y7 y8 y12 : Int) (w : World) (h8 : eq8 x1 x2 x3 x4 x5 x6 x7 x8 y1 y2 y3 y4 y5 y6 y7 y8 = true) (hne : (x12 == y12) = false)
    (hp : blkD w p = #[.pointer (some ⟨q, 0, none⟩), .int .u16 x9, .int .u16 x10, .int .u32 x11, .int .u32 x12]) (hq : blkD w q = #[.int .u16 x1, .int .u8 x2, .int .u16 x3, .int .u8 x4, .int .u16 x5, .int .u16 x6, .int .u8 x7, .int .u16 x8])
    (hp' : blkD w p' = #[.pointer (some ⟨q', 0, none⟩), .int .u16 x9, .int .u16 x10, .int .u32 x11, .int .u32 y12]) (hq' : blkD w q' = #[.int .u16 y1, .int .u8 y2, .int .u16 y3, .int .u8 y4, .int .u16 y5, .int .u16 y6, .int .u8 y7, .int .u16 y8]) :
    Calls Try.prog 14 #[.pointer (some ⟨p, 0, none⟩), .pointer (some ⟨p', 0, none⟩)] w fun e w' => e = .returned (.bool false) ∧ ∃ n, w' = w.drewN n := by
  go_enter Try.func14, Try.ntmps14
  go_wp2
  simp only [List.append_eq, List.cons_append, List.nil_append]
  go_quiet (fail)
  go_wp2
  go_ret
  exact ⟨rfl, _, rfl⟩
end Go.Proofs.Ythocgjaloflclaa
