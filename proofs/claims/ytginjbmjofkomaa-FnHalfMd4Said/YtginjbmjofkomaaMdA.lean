/- Walks of md4's small functions and of bits.RotateLeft32. -/
import Derived.Test.YtginjbmjofkomaaAid
namespace Go.Proofs.Ytginjbmjofkomaa
open Go.RowKit

def rotW (t s : Int) : Int := bits BinOp.or IntKind.u32 (t * 2 ^ s.toNat % 4294967296) (t / 2 ^ (32 - s).toNat)
def fW : Nat → Int → Int → Int → Int
  | 0, x, y, z => bits BinOp.xor IntKind.u32 z (bits BinOp.and IntKind.u32 x (bits BinOp.xor IntKind.u32 y z))
  | 1, x, y, z => (bits BinOp.and IntKind.u32 x y + bits BinOp.and IntKind.u32 (bits BinOp.xor IntKind.u32 x y) z) % 4294967296
  | _, x, y, z => bits BinOp.xor IntKind.u32 (bits BinOp.xor IntKind.u32 x y) z

theorem rot_any (x s : Int) (w : World) (h1 : 1 ≤ s) (h2 : s ≤ 31) :
    Calls Try.prog 20 #[.int .u32 x, .int .u64 s] w fun e w' => e = .returned (.int .u32 (rotW x s)) ∧ w = w' := by
  go_enter Try.func20, Try.ntmps20
  go_wp2
  go_ret
  exact ⟨rfl, rfl⟩
theorem and31 (s : Int) (h1 : 1 ≤ s) (h2 : s ≤ 31) : bits BinOp.and IntKind.u64 s 31 = s := by
  have h : ∀ n : Nat, n < 32 → bits BinOp.and IntKind.u64 (n : Int) 31 = (n : Int) := by decide
  obtain ⟨n, rfl⟩ := Int.eq_ofNat_of_zero_le (show 0 ≤ s by omega)
  exact h n (by omega)
theorem rotb_any (x : Int) (s : Int) (w : World) (h1 : 1 ≤ s) (h2 : s ≤ 31) :
    Calls Try.prog 15 #[.int .u32 x, .int .i64 s] w fun e w' => e = .returned (.int .u32 (rotW x s)) ∧ w = w' := by
  have ha := and31 s h1 h2
  go_enter Try.func15, Try.ntmps15
  go_wp2
  go_ret
  exact ⟨rfl, rfl⟩
theorem f_any (x y z : Int) (w : World) :
    Calls Try.prog 17 #[.int .u32 x, .int .u32 y, .int .u32 z] w fun e w' => e = .returned (.int .u32 (fW 0 x y z)) ∧ w = w' := by
  go_enter Try.func17, Try.ntmps17
  go_wp2
  go_ret
  exact ⟨rfl, rfl⟩
theorem g_any (x y z : Int) (w : World) :
    Calls Try.prog 18 #[.int .u32 x, .int .u32 y, .int .u32 z] w fun e w' => e = .returned (.int .u32 (fW 1 x y z)) ∧ w = w' := by
  go_enter Try.func18, Try.ntmps18
  go_wp2
  go_ret
  exact ⟨rfl, rfl⟩
theorem h_any (x y z : Int) (w : World) :
    Calls Try.prog 19 #[.int .u32 x, .int .u32 y, .int .u32 z] w fun e w' => e = .returned (.int .u32 (fW 2 x y z)) ∧ w = w' := by
  go_enter Try.func19, Try.ntmps19
  go_wp2
  go_ret
  exact ⟨rfl, rfl⟩
/-- one step: function 16 with its function number 17 + i -/
def R (i : Nat) (a b c d x s : Int) : Int := rotW ((a + fW i b c d + x) % 4294967296) s
theorem R_any (i : Nat) (hi : i < 3) (a b c d x s : Int) (w : World) (h1 : 1 ≤ s) (h2 : s ≤ 31) :
    Calls Try.prog 16 #[.func (.func (17 + i)) #[] #[], .int .u32 a, .int .u32 b, .int .u32 c, .int .u32 d, .int .u32 x, .int .u64 s] w
      fun e w' => e = .returned (.int .u32 (R i a b c d x s)) ∧ w = w' := by
  obtain rfl | rfl | rfl : i = 0 ∨ i = 1 ∨ i = 2 := by omega
  all_goals
    go_enter Try.func16, Try.ntmps16
    go_wp2_with (first | (go_at_call 17; refine (f_any _ _ _ _).mono ?_; rintro e w' ⟨rfl, rfl⟩) | (go_at_call 18; refine (g_any _ _ _ _).mono ?_; rintro e w' ⟨rfl, rfl⟩) | (go_at_call 19; refine (h_any _ _ _ _).mono ?_; rintro e w' ⟨rfl, rfl⟩) | (go_at_call 20; refine (rot_any _ _ _ h1 h2).mono ?_; rintro e w' ⟨rfl, rfl⟩))
    go_ret
    exact ⟨rfl, rfl⟩
end Go.Proofs.Ytginjbmjofkomaa
