/- Walks of TotalSectors and BpbTotal; bpbOf at words of 32 bits. -/
import Derived.Test.YthocgjaloflclaaB
import Derived.Test.YthocgjaloflclaaC
import Derived.Test.YthocgjaloflclaaF
import Derived.Test.YthocgjaloflclaaG
namespace Go.Proofs.Ythocgjaloflclaa
open Go.RowKit
attribute [local go_sem ↓] Go.wp_at_zero Go.wp_at_succ
set_option linter.unusedVariables false

@[go_sem] theorem lt_add7 (n : Nat) : (n < n + 1 + 1 + 1 + 1 + 1 + 1 + 1) = True := by simp; omega
@[go_sem] theorem ne_add7 (n : Nat) : (n + 1 + 1 + 1 + 1 + 1 + 1 + 1 = n) = False := by simp; try omega
@[go_sem] theorem ne_add7' (n : Nat) : (n = n + 1 + 1 + 1 + 1 + 1 + 1 + 1) = False := by simp; try omega
@[go_sem] theorem lt_add8 (n : Nat) : (n < n + 1 + 1 + 1 + 1 + 1 + 1 + 1 + 1) = True := by simp; omega
@[go_sem] theorem ne_add8 (n : Nat) : (n + 1 + 1 + 1 + 1 + 1 + 1 + 1 + 1 = n) = False := by simp; try omega
@[go_sem] theorem ne_add8' (n : Nat) : (n = n + 1 + 1 + 1 + 1 + 1 + 1 + 1 + 1) = False := by simp; try omega
@[go_sem] theorem lt_add9 (n : Nat) : (n < n + 1 + 1 + 1 + 1 + 1 + 1 + 1 + 1 + 1) = True := by simp; omega
@[go_sem] theorem ne_add9 (n : Nat) : (n + 1 + 1 + 1 + 1 + 1 + 1 + 1 + 1 + 1 = n) = False := by simp; try omega
@[go_sem] theorem ne_add9' (n : Nat) : (n = n + 1 + 1 + 1 + 1 + 1 + 1 + 1 + 1 + 1) = False := by simp; try omega
@[go_sem] theorem lt_add10 (n : Nat) : (n < n + 1 + 1 + 1 + 1 + 1 + 1 + 1 + 1 + 1 + 1) = True := by simp; omega
@[go_sem] theorem ne_add10 (n : Nat) : (n + 1 + 1 + 1 + 1 + 1 + 1 + 1 + 1 + 1 + 1 = n) = False := by simp; try omega
@[go_sem] theorem ne_add10' (n : Nat) : (n = n + 1 + 1 + 1 + 1 + 1 + 1 + 1 + 1 + 1 + 1) = False := by simp; try omega
@[go_sem] theorem lt_add11 (n : Nat) : (n < n + 1 + 1 + 1 + 1 + 1 + 1 + 1 + 1 + 1 + 1 + 1) = True := by simp; omega
@[go_sem] theorem ne_add11 (n : Nat) : (n + 1 + 1 + 1 + 1 + 1 + 1 + 1 + 1 + 1 + 1 + 1 = n) = False := by simp; try omega
@[go_sem] theorem ne_add11' (n : Nat) : (n = n + 1 + 1 + 1 + 1 + 1 + 1 + 1 + 1 + 1 + 1 + 1) = False := by simp; try omega
@[go_sem] theorem lt_add12 (n : Nat) : (n < n + 1 + 1 + 1 + 1 + 1 + 1 + 1 + 1 + 1 + 1 + 1 + 1) = True := by simp; omega
@[go_sem] theorem ne_add12 (n : Nat) : (n + 1 + 1 + 1 + 1 + 1 + 1 + 1 + 1 + 1 + 1 + 1 + 1 = n) = False := by simp; try omega
@[go_sem] theorem ne_add12' (n : Nat) : (n = n + 1 + 1 + 1 + 1 + 1 + 1 + 1 + 1 + 1 + 1 + 1 + 1) = False := by simp; try omega
@[go_sem] theorem lt_add13 (n : Nat) : (n < n + 1 + 1 + 1 + 1 + 1 + 1 + 1 + 1 + 1 + 1 + 1 + 1 + 1) = True := by simp; omega
@[go_sem] theorem ne_add13 (n : Nat) : (n + 1 + 1 + 1 + 1 + 1 + 1 + 1 + 1 + 1 + 1 + 1 + 1 + 1 = n) = False := by simp; try omega
@[go_sem] theorem ne_add13' (n : Nat) : (n = n + 1 + 1 + 1 + 1 + 1 + 1 + 1 + 1 + 1 + 1 + 1 + 1 + 1) = False := by simp; try omega
@[go_sem] theorem lt_add14 (n : Nat) : (n < n + 1 + 1 + 1 + 1 + 1 + 1 + 1 + 1 + 1 + 1 + 1 + 1 + 1 + 1) = True := by simp; omega
@[go_sem] theorem ne_add14 (n : Nat) : (n + 1 + 1 + 1 + 1 + 1 + 1 + 1 + 1 + 1 + 1 + 1 + 1 + 1 + 1 = n) = False := by simp; try omega
@[go_sem] theorem ne_add14' (n : Nat) : (n = n + 1 + 1 + 1 + 1 + 1 + 1 + 1 + 1 + 1 + 1 + 1 + 1 + 1 + 1) = False := by simp; try omega
@[go_sem] theorem lt_add15 (n : Nat) : (n < n + 1 + 1 + 1 + 1 + 1 + 1 + 1 + 1 + 1 + 1 + 1 + 1 + 1 + 1 + 1) = True := by simp; omega
@[go_sem] theorem ne_add15 (n : Nat) : (n + 1 + 1 + 1 + 1 + 1 + 1 + 1 + 1 + 1 + 1 + 1 + 1 + 1 + 1 + 1 = n) = False := by simp; try omega
@[go_sem] theorem ne_add15' (n : Nat) : (n = n + 1 + 1 + 1 + 1 + 1 + 1 + 1 + 1 + 1 + 1 + 1 + 1 + 1 + 1 + 1) = False := by simp; try omega
@[go_sem] theorem lt_add16 (n : Nat) : (n < n + 1 + 1 + 1 + 1 + 1 + 1 + 1 + 1 + 1 + 1 + 1 + 1 + 1 + 1 + 1 + 1) = True := by simp; omega
@[go_sem] theorem ne_add16 (n : Nat) : (n + 1 + 1 + 1 + 1 + 1 + 1 + 1 + 1 + 1 + 1 + 1 + 1 + 1 + 1 + 1 + 1 = n) = False := by simp; try omega
@[go_sem] theorem ne_add16' (n : Nat) : (n = n + 1 + 1 + 1 + 1 + 1 + 1 + 1 + 1 + 1 + 1 + 1 + 1 + 1 + 1 + 1 + 1) = False := by simp; try omega
/-- bpbOf at 331 -/
theorem of1_lit (l0 l1 l2 l3 l4 l5 l6 l7 l8 l9 l10 l11 l12 l13 l14 l15 : Int) (w : World) (a9 : 0 ≤ l9) (b9 : l9 ≤ 4294967295) (a10 : 0 ≤ l10) (b10 : l10 ≤ 4294967295) :
    Calls Try.prog 5 #[.int .u8 1, .agg #[.int .u32 l0, .int .u32 l1, .int .u32 l2, .int .u32 l3, .int .u32 l4, .int .u32 l5, .int .u32 l6, .int .u32 l7, .int .u32 l8, .int .u32 l9, .int .u32 l10, .int .u32 l11, .int .u32 l12, .int .u32 l13, .int .u32 l14, .int .u32 l15], .string ⟨#[]⟩, .string ⟨#[]⟩] w fun e w' =>
      e = .returned (.agg #[.int .i64 331, .int .i64 512, .int .i64 (m8 l0), .int .i64 (m16 l1), .int .i64 (m8 l2), .int .i64 (m16 l3), .int .i64 (m16 l4), .int .i64 (m8 l5), .int .i64 (m16 l6), .int .i64 (m16 l7), .int .i64 (m16 l8), .int .i64 l9, .int .i64 l10, .int .i64 0, .int .i64 0, .int .i64 0, .int .i64 0, .string ⟨#[]⟩, .string ⟨#[]⟩]) ∧ Below w.heap.size w w' := by
  have e9 : wrap64 l9 = l9 := IntWalk.wrap64_in l9 ⟨by omega, by omega⟩
  have e10 : wrap64 l10 = l10 := IntWalk.wrap64_in l10 ⟨by omega, by omega⟩
  have h := of1_any l0 l1 l2 l3 l4 l5 l6 l7 l8 l9 l10 l11 l12 l13 l14 l15 w
  unfold of1 at h
  rw [e9, e10] at h
  exact h
/-- bpbOf at 40 -/
theorem of2_lit (l0 l1 l2 l3 l4 l5 l6 l7 l8 l9 l10 l11 l12 l13 l14 l15 : Int) (w : World) (a9 : 0 ≤ l9) (b9 : l9 ≤ 4294967295) (a10 : 0 ≤ l10) (b10 : l10 ≤ 4294967295) (a14 : 0 ≤ l14) (b14 : l14 ≤ 4294967295) :
    Calls Try.prog 5 #[.int .u8 2, .agg #[.int .u32 l0, .int .u32 l1, .int .u32 l2, .int .u32 l3, .int .u32 l4, .int .u32 l5, .int .u32 l6, .int .u32 l7, .int .u32 l8, .int .u32 l9, .int .u32 l10, .int .u32 l11, .int .u32 l12, .int .u32 l13, .int .u32 l14, .int .u32 l15], .string ⟨#[]⟩, .string ⟨#[]⟩] w fun e w' =>
      e = .returned (.agg #[.int .i64 40, .int .i64 512, .int .i64 (m8 l0), .int .i64 (m16 l1), .int .i64 (m8 l2), .int .i64 (m16 l3), .int .i64 (m16 l4), .int .i64 (m8 l5), .int .i64 (m16 l6), .int .i64 (m16 l7), .int .i64 (m16 l8), .int .i64 l9, .int .i64 l10, .int .i64 (m8 l11), .int .i64 (m8 l12), .int .i64 (40 + m1 l13), .int .i64 l14, .string ⟨#[]⟩, .string ⟨#[]⟩]) ∧ Below w.heap.size w w' := by
  have e9 : wrap64 l9 = l9 := IntWalk.wrap64_in l9 ⟨by omega, by omega⟩
  have e10 : wrap64 l10 = l10 := IntWalk.wrap64_in l10 ⟨by omega, by omega⟩
  have e14 : wrap64 l14 = l14 := IntWalk.wrap64_in l14 ⟨by omega, by omega⟩
  have h1 := m1_le l13
  have e13 : wrap64 (40 + m1 l13) = 40 + m1 l13 := IntWalk.wrap64_in _ ⟨by omega, by omega⟩
  have h := of2_any l0 l1 l2 l3 l4 l5 l6 l7 l8 l9 l10 l11 l12 l13 l14 l15 w
  unfold of2 at h
  rw [e9, e10, e13, e14] at h
  exact h

/-- the number of sectors that the struct tells -/
def totS (x6 x12 : Int) : Int := if x12 = 0 then x6 else x12
theorem total_any (p q r : Nat) (x6 x12 : Int) (w : World) (a6 : 0 ≤ x6) (b6 : x6 ≤ 65535) (c1 : w.cell? ⟨p, 0, none⟩ = some (.pointer (some ⟨q, 0, none⟩))) (c2 : w.cell? ⟨q, 4, none⟩ = some (.int .u32 x12))
    (c3 : w.cell? ⟨q, 0, none⟩ = some (.pointer (some ⟨r, 0, none⟩))) (c4 : w.cell? ⟨r, 5, none⟩ = some (.int .u16 x6)) :
    Calls Try.prog 12 #[.pointer (some ⟨p, 0, none⟩)] w fun e w' => e = .returned (.int .u32 (totS x6 x12)) ∧ w = w' := by
  by_cases h : x12 = 0
  · subst h
    go_enter Try.func12, Try.ntmps12
    go_wp2
    go_ret
    exact ⟨rfl, rfl⟩
  · have hb : (x12 == 0) = false := by simpa using h
    have hb2 : (x12 != 0) = true := by simpa using h
    go_enter Try.func12, Try.ntmps12
    go_wp2
    go_ret
    exact ⟨by simp [totS, h], rfl⟩

set_option maxRecDepth 100000 in
set_option maxHeartbeats 4000000 in
theorem bpbTotal_any (x0 x1 x2 x3 x4 x5 x6 x7 x8 x9 x10 x11 x12 x13 x14 x15 x16 : Int) (s t : ByteArray) (w : World) (a1 : 0 ≤ x1) (b1 : x1 ≤ 65535) (a2 : 0 ≤ x2) (b2 : x2 ≤ 255) (a3 : 0 ≤ x3) (b3 : x3 ≤ 65535) (a4 : 0 ≤ x4) (b4 : x4 ≤ 255) (a5 : 0 ≤ x5) (b5 : x5 ≤ 65535) (a6 : 0 ≤ x6) (b6 : x6 ≤ 65535) (a7 : 0 ≤ x7) (b7 : x7 ≤ 255) (a8 : 0 ≤ x8) (b8 : x8 ≤ 65535) (a9 : 0 ≤ x9) (b9 : x9 ≤ 65535) (a10 : 0 ≤ x10) (b10 : x10 ≤ 65535) (a11 : 0 ≤ x11) (b11 : x11 ≤ 4294967295) (a12 : 0 ≤ x12) (b12 : x12 ≤ 4294967295) (a13 : 0 ≤ x13) (b13 : x13 ≤ 255) (a14 : 0 ≤ x14) (b14 : x14 ≤ 255) (a15 : 0 ≤ x15) (b15 : x15 ≤ 255) (a16 : 0 ≤ x16) (b16 : x16 ≤ 4294967295) :
    Calls Try.prog 6 #[.agg #[.int .i64 x0, .int .i64 x1, .int .i64 x2, .int .i64 x3, .int .i64 x4, .int .i64 x5, .int .i64 x6, .int .i64 x7, .int .i64 x8, .int .i64 x9, .int .i64 x10, .int .i64 x11, .int .i64 x12, .int .i64 x13, .int .i64 x14, .int .i64 x15, .int .i64 x16, .string s, .string t]] w fun e w' => e = .returned (.int .i64 (totS x6 x12)) ∧ Below w.heap.size w w' := by
  have ht : 0 ≤ totS x6 x12 ∧ totS x6 x12 ≤ 4294967295 := by unfold totS; split <;> omega
  obtain ⟨t0, t1⟩ := ht
  go_enter Try.func6, Try.ntmps6
  go_wp2_with (first | (go_at_call 10; refine (fits_any x0 x1 x2 x3 x4 x5 x6 x7 x8 x9 x10 x11 x12 x13 x14 x15 x16 s t _ a1 b1 a2 b2 a3 b3 a4 b4 a5 b5 a6 b6 a7 b7 a8 b8 a9 b9 a10 b10 a11 b11 a12 b12 a13 b13 a14 b14 a15 b15 a16 b16).mono ?_; rintro e w1 ⟨rfl, rfl⟩) | (go_at_call 11; refine (four_any x0 x1 x2 x3 x4 x5 x6 x7 x8 x9 x10 x11 x12 x13 x14 x15 x16 s t _ a1 b1 a2 b2 a3 b3 a4 b4 a5 b5 a6 b6 a7 b7 a8 b8 a9 b9 a10 b10 a11 b11 a12 b12 a13 b13 a14 b14 a15 b15 a16 b16).mono ?_; rintro e w1 ⟨rfl, rfl⟩) | (go_at_call 12; refine (total_any (w.heap.size + 1 + 1 + 1 + 1 + 1 + 1 + 1 + 1 + 1 + 1) (w.heap.size + 1 + 1 + 1 + 1 + 1 + 1 + 1 + 1 + 1) (w.heap.size + 1 + 1 + 1 + 1 + 1 + 1 + 1 + 1) x6 x12 _ a6 b6 ?_ ?_ ?_ ?_).mono ?_; (simp [go_sem]); (simp [go_sem]); (simp [go_sem]); (simp [go_sem]); rintro e w' ⟨rfl, rfl⟩))
  go_ret
  refine ⟨rfl, ?_⟩
  repeat (first | (with_reducible exact Below.refl _ _) | (with_reducible refine Below.drew ?_) | (with_reducible refine Below.alloc ?_ ?_ _))
  all_goals (simp <;> omega)
end Go.Proofs.Ythocgjaloflclaa
