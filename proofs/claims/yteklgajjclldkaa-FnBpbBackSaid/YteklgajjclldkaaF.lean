/- Walk of fits: all numbers fit their fields. -/
import Derived.Test.YteklgajjclldkaaInst
namespace Go.Proofs.Yteklgajjclldkaa
open Go.RowKit

set_option maxRecDepth 100000 in
set_option maxHeartbeats 4000000 in
theorem fits_any (x0 x1 x2 x3 x4 x5 x6 x7 x8 x9 x10 x11 x12 x13 x14 x15 x16 : Int) (s t : ByteArray) (w : World) (a1 : 0 ≤ x1) (b1 : x1 ≤ 65535) (a2 : 0 ≤ x2) (b2 : x2 ≤ 255) (a3 : 0 ≤ x3) (b3 : x3 ≤ 65535) (a4 : 0 ≤ x4) (b4 : x4 ≤ 255) (a5 : 0 ≤ x5) (b5 : x5 ≤ 65535) (a6 : 0 ≤ x6) (b6 : x6 ≤ 65535) (a7 : 0 ≤ x7) (b7 : x7 ≤ 255) (a8 : 0 ≤ x8) (b8 : x8 ≤ 65535) (a9 : 0 ≤ x9) (b9 : x9 ≤ 65535) (a10 : 0 ≤ x10) (b10 : x10 ≤ 65535) (a11 : 0 ≤ x11) (b11 : x11 ≤ 4294967295) (a12 : 0 ≤ x12) (b12 : x12 ≤ 4294967295) (a13 : 0 ≤ x13) (b13 : x13 ≤ 255) (a14 : 0 ≤ x14) (b14 : x14 ≤ 255) (a15 : 0 ≤ x15) (b15 : x15 ≤ 255) (a16 : 0 ≤ x16) (b16 : x16 ≤ 4294967295) :
    Calls Try.prog 10 #[.agg #[.int .i64 x0, .int .i64 x1, .int .i64 x2, .int .i64 x3, .int .i64 x4, .int .i64 x5, .int .i64 x6, .int .i64 x7, .int .i64 x8, .int .i64 x9, .int .i64 x10, .int .i64 x11, .int .i64 x12, .int .i64 x13, .int .i64 x14, .int .i64 x15, .int .i64 x16, .string s, .string t]] w fun e w' => e = .returned (.bool true) ∧ w' = (((w.alloc (.cells #[.int .i64 x0, .int .i64 x1, .int .i64 x2, .int .i64 x3, .int .i64 x4, .int .i64 x5, .int .i64 x6, .int .i64 x7, .int .i64 x8, .int .i64 x9, .int .i64 x10, .int .i64 x11, .int .i64 x12, .int .i64 x13, .int .i64 x14, .int .i64 x15, .int .i64 x16, .string s, .string t] 25)).alloc (.cells #[.int .i64 x1, .int .i64 x3, .int .i64 x5, .int .i64 x6, .int .i64 x8, .int .i64 x9, .int .i64 x10] 3)).alloc (.cells #[.int .i64 x2, .int .i64 x4, .int .i64 x7, .int .i64 x13, .int .i64 x14, .int .i64 x15] 3)).alloc (.cells #[.int .i64 x11, .int .i64 x12, .int .i64 x16] 3) := by
  go_enter Try.func10, Try.ntmps10
  go_wp2
  go_loop [3, 26] (fun ok i => ∃ k : Nat, k ≤ 7 ∧ i = .int .i64 k ∧ ok = .bool true) (fun _ i => 7 - (intOf i).toNat)
  case atStart => exact ⟨0, by omega, rfl, rfl⟩
  case round =>
    obtain ⟨k, hk, rfl, rfl⟩ := hrel
    by_cases h : k < 7
    · obtain ⟨z, hz, hz0, hz1⟩ : ∃ z : Int, ((w.alloc (.cells #[.int .i64 x0, .int .i64 x1, .int .i64 x2, .int .i64 x3, .int .i64 x4, .int .i64 x5, .int .i64 x6, .int .i64 x7, .int .i64 x8, .int .i64 x9, .int .i64 x10, .int .i64 x11, .int .i64 x12, .int .i64 x13, .int .i64 x14, .int .i64 x15, .int .i64 x16, .string s, .string t] 25)).alloc (.cells #[.int .i64 x1, .int .i64 x3, .int .i64 x5, .int .i64 x6, .int .i64 x8, .int .i64 x9, .int .i64 x10] 3) : World).cell? ⟨w.heap.size + 1, k, none⟩ = some (.int .i64 z) ∧ 0 ≤ z ∧ z ≤ 65535 := by
        rcases (show k = 0 ∨ k = 1 ∨ k = 2 ∨ k = 3 ∨ k = 4 ∨ k = 5 ∨ k = 6 from by omega) with rfl | rfl | rfl | rfl | rfl | rfl | rfl
        · exact ⟨x1, by simp [go_sem], a1, b1⟩
        · exact ⟨x3, by simp [go_sem], a3, b3⟩
        · exact ⟨x5, by simp [go_sem], a5, b5⟩
        · exact ⟨x6, by simp [go_sem], a6, b6⟩
        · exact ⟨x8, by simp [go_sem], a8, b8⟩
        · exact ⟨x9, by simp [go_sem], a9, b9⟩
        · exact ⟨x10, by simp [go_sem], a10, b10⟩
      go_wp2
      go_round
      case rel => exact ⟨k + 1, by omega, by go_num, by simp⟩
      case measure => simp [intOf]; omega
    · have e : k = 7 := by omega
      subst e
      go_wp2
      go_loop [3, 54] (fun ok i => ∃ k : Nat, k ≤ 6 ∧ i = .int .i64 k ∧ ok = .bool true) (fun _ i => 6 - (intOf i).toNat)
      case atStart => exact ⟨0, by omega, rfl, rfl⟩
      case round =>
        obtain ⟨k, hk, rfl, rfl⟩ := hrel
        by_cases h : k < 6
        · obtain ⟨z, hz, hz0, hz1⟩ : ∃ z : Int, (((w.alloc (.cells #[.int .i64 x0, .int .i64 x1, .int .i64 x2, .int .i64 x3, .int .i64 x4, .int .i64 x5, .int .i64 x6, .int .i64 x7, .int .i64 x8, .int .i64 x9, .int .i64 x10, .int .i64 x11, .int .i64 x12, .int .i64 x13, .int .i64 x14, .int .i64 x15, .int .i64 x16, .string s, .string t] 25)).alloc (.cells #[.int .i64 x1, .int .i64 x3, .int .i64 x5, .int .i64 x6, .int .i64 x8, .int .i64 x9, .int .i64 x10] 3)).alloc (.cells #[.int .i64 x2, .int .i64 x4, .int .i64 x7, .int .i64 x13, .int .i64 x14, .int .i64 x15] 3) : World).cell? ⟨w.heap.size + 1 + 1, k, none⟩ = some (.int .i64 z) ∧ 0 ≤ z ∧ z ≤ 255 := by
            rcases (show k = 0 ∨ k = 1 ∨ k = 2 ∨ k = 3 ∨ k = 4 ∨ k = 5 from by omega) with rfl | rfl | rfl | rfl | rfl | rfl
            · exact ⟨x2, by simp [go_sem], a2, b2⟩
            · exact ⟨x4, by simp [go_sem], a4, b4⟩
            · exact ⟨x7, by simp [go_sem], a7, b7⟩
            · exact ⟨x13, by simp [go_sem], a13, b13⟩
            · exact ⟨x14, by simp [go_sem], a14, b14⟩
            · exact ⟨x15, by simp [go_sem], a15, b15⟩
          go_wp2
          go_round
          case rel => exact ⟨k + 1, by omega, by go_num, by simp⟩
          case measure => simp [intOf]; omega
        · have e : k = 6 := by omega
          subst e
          go_wp2
          go_loop [3, 76] (fun ok i => ∃ k : Nat, k ≤ 3 ∧ i = .int .i64 k ∧ ok = .bool true) (fun _ i => 3 - (intOf i).toNat)
          case atStart => exact ⟨0, by omega, rfl, rfl⟩
          case round =>
            obtain ⟨k, hk, rfl, rfl⟩ := hrel
            by_cases h : k < 3
            · obtain ⟨z, hz, hz0, hz1⟩ : ∃ z : Int, ((((w.alloc (.cells #[.int .i64 x0, .int .i64 x1, .int .i64 x2, .int .i64 x3, .int .i64 x4, .int .i64 x5, .int .i64 x6, .int .i64 x7, .int .i64 x8, .int .i64 x9, .int .i64 x10, .int .i64 x11, .int .i64 x12, .int .i64 x13, .int .i64 x14, .int .i64 x15, .int .i64 x16, .string s, .string t] 25)).alloc (.cells #[.int .i64 x1, .int .i64 x3, .int .i64 x5, .int .i64 x6, .int .i64 x8, .int .i64 x9, .int .i64 x10] 3)).alloc (.cells #[.int .i64 x2, .int .i64 x4, .int .i64 x7, .int .i64 x13, .int .i64 x14, .int .i64 x15] 3)).alloc (.cells #[.int .i64 x11, .int .i64 x12, .int .i64 x16] 3) : World).cell? ⟨w.heap.size + 1 + 1 + 1, k, none⟩ = some (.int .i64 z) ∧ 0 ≤ z ∧ z ≤ 4294967295 := by
                rcases (show k = 0 ∨ k = 1 ∨ k = 2 from by omega) with rfl | rfl | rfl
                · exact ⟨x11, by simp [go_sem], a11, b11⟩
                · exact ⟨x12, by simp [go_sem], a12, b12⟩
                · exact ⟨x16, by simp [go_sem], a16, b16⟩
              go_wp2
              go_round
              case rel => exact ⟨k + 1, by omega, by go_num, by simp⟩
              case measure => simp [intOf]; omega
            · have e : k = 3 := by omega
              subst e
              go_wp2
              go_ret
              exact ⟨rfl, rfl⟩
end Go.Proofs.Yteklgajjclldkaa
