/- Walk of the law FnJournalNew. -/
import Derived.Test.YtpgbafllipigfaaJK
namespace Go.Proofs.Ytpgbafllipigfaa
open Go.RowKit
attribute [local go_sem ↓] Go.wp_at_zero Go.wp_at_succ
set_option linter.unusedVariables false

/-- a number of four bytes in the text -/
theorem big_str {C : Array Value} (i : Nat) (x : Int) (w : World) (hB : Bytes C) (hz : C.size = 1024) (hi : i + 3 < 1024) (hx : rd4 C i = x) :
    Calls Try.prog 7 #[.string (strB C), .int .i64 i] w fun e w' => e = .returned (.int .u32 x) ∧ w = w' := by
  have hs : (strB C).size = 1024 := by rw [size_strB, hz]
  have h := big_any (strB C) i (nb C i) (nb C (i + 1)) (nb C (i + 2)) (nb C (i + 3)) w (by omega) (by omega) (get_strB hB _ _) (get_strB hB _ _) (get_strB hB _ _) (get_strB hB _ _)
  rw [← hx]
  exact h

set_option maxRecDepth 100000 in
set_option maxHeartbeats 2000000 in
theorem law_new_any (bl bs : Int) (w : World) (a : 0 ≤ bl) (b : bl ≤ 4294967295) (c : 0 ≤ bs) (d : bs ≤ 4294967295) :
    Calls Try.prog 3 #[.int .u32 bl, .int .u32 bs] w fun e w' => e = .returned (.bool true) ∧ Below w.heap.size w w' := by
  obtain ⟨X, hX⟩ : ∃ X : Int, X = (1024 : Int) * (2 : Int) ^ (bl % 3).toNat % 4294967296 := ⟨_, rfl⟩
  obtain ⟨C, hC⟩ : ∃ C, C = jNewB X (1024 + bs % 100000) := ⟨_, rfl⟩
  have x0 : 0 ≤ X := by omega
  have x1 : X ≤ 4294967295 := by omega
  obtain ⟨Y, hY⟩ : ∃ Y : Int, Y = 1024 + bs % 100000 := ⟨_, rfl⟩
  rw [← hY] at hC
  have y0 : 0 ≤ Y := by omega
  have y1 : Y ≤ 4294967295 := by omega
  obtain ⟨hby, hsz, r0, r4, -, r12, r16, -⟩ := jbytes_holds 3225106840 4 0 X Y 1 1 0 0 0 1 0 32768 32768 4 0 0 0 uu0 C rfl uu0_bytes (by omega) (by omega) (by omega) (by omega) (by omega) (by omega) (by omega) (by omega) x0 x1 y0 y1 (by omega) (by omega) (by omega) (by omega) (by omega) (by omega) (by omega) (by omega) (by omega) (by omega) (by omega) (by omega) (by omega) (by omega) (by omega) (by omega) (by omega) (by omega) (by omega) (by omega) (by omega) (by omega) (by omega) (by omega) hC
  have hzs : (strB C).size = 1024 := by rw [size_strB, hsz]
  have J1 : ∀ W : World, Calls Try.prog 5 #[.int .u32 X, .int .u32 Y] W fun e w' => e = .returned (.tuple #[.string (strB C), .bool true]) ∧ Below W.heap.size W w' := fun W => hC ▸ jnew_any X Y W x0 x1 y0 y1
  have J2 : ∀ W : World, Calls Try.prog 6 #[.string (strB C)] W fun e w' => e = .returned (.tuple #[.string (strB C), .bool true]) ∧ Below W.heap.size W w' := fun W => jback_gen X Y C hC W x0 x1 y0 y1
  have B0 : ∀ W : World, Calls Try.prog 7 #[.string (strB C), .int .i64 0] W fun e w' => e = .returned (.int .u32 3225106840) ∧ W = w' := fun W => big_str 0 _ W hby hsz (by omega) r0
  have B4 : ∀ W : World, Calls Try.prog 7 #[.string (strB C), .int .i64 4] W fun e w' => e = .returned (.int .u32 4) ∧ W = w' := fun W => big_str 4 _ W hby hsz (by omega) r4
  have B12 : ∀ W : World, Calls Try.prog 7 #[.string (strB C), .int .i64 12] W fun e w' => e = .returned (.int .u32 X) ∧ W = w' := fun W => big_str 12 _ W hby hsz (by omega) r12
  have B16 : ∀ W : World, Calls Try.prog 7 #[.string (strB C), .int .i64 16] W fun e w' => e = .returned (.int .u32 Y) ∧ W = w' := fun W => big_str 16 _ W hby hsz (by omega) r16
  have HJ1 := Lib.hid J1
  have HJ2 := Lib.hid J2
  have HB0 := Lib.hid B0
  have HB4 := Lib.hid B4
  have HB12 := Lib.hid B12
  have HB16 := Lib.hid B16
  have HX := Lib.hid hX
  have HY := Lib.hid hY
  clear J1 J2 B0 B4 B12 B16 hX hby hsz r0 r4 r12 r16 hY hC
  go_enter Try.func3, Try.ntmps3
  go_wp2_with fail
  rw [← HX.out, ← HY.out]
  refine (HJ1.out _).mono ?_
  rintro e w1 ⟨rfl, hb1⟩
  go_wp2_with fail
  refine (HJ2.out _).mono ?_
  rintro e w2 ⟨rfl, hb2⟩
  go_wp2_with fail
  refine (HB0.out _).mono ?_
  rintro e w' ⟨rfl, rfl⟩
  go_wp2_with fail
  refine (HB4.out _).mono ?_
  rintro e w' ⟨rfl, rfl⟩
  go_wp2_with fail
  refine (HB12.out _).mono ?_
  rintro e w' ⟨rfl, rfl⟩
  go_wp2_with fail
  refine (HB16.out _).mono ?_
  rintro e w' ⟨rfl, rfl⟩
  go_wp2_with fail
  go_ret
  exact ⟨rfl, hb1.trans (hb2.mono hb1.size)⟩
end Go.Proofs.Ytpgbafllipigfaa
