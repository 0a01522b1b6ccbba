/- Walk of ext4.TEATransform. -/
import Derived.Test.YtginjbmjofkomaaAid
namespace Go.Proofs.Ytginjbmjofkomaa
open Go.RowKit

/-- one round of the cipher, in the walk's own spelling -/
def tS (S : Int) : Int := (S + 2654435769) % 4294967296
def tA (i0 i1 S A B : Int) : Int :=
  (A + bits BinOp.xor IntKind.u32 (bits BinOp.xor IntKind.u32 ((B * 16 + i0) % 4294967296) ((B + (S + 2654435769)) % 4294967296)) ((B / 32 + i1) % 4294967296)) % 4294967296
def tB (i0 i1 i2 i3 S A B : Int) : Int :=
  (B + bits BinOp.xor IntKind.u32 (bits BinOp.xor IntKind.u32
      (((A + bits BinOp.xor IntKind.u32 (bits BinOp.xor IntKind.u32 ((B * 16 + i0) % 4294967296) ((B + (S + 2654435769)) % 4294967296)) ((B / 32 + i1) % 4294967296)) % 4294967296 * 16 + i2) % 4294967296)
      ((A + bits BinOp.xor IntKind.u32 (bits BinOp.xor IntKind.u32 ((B * 16 + i0) % 4294967296) ((B + (S + 2654435769)) % 4294967296)) ((B / 32 + i1) % 4294967296) + (S + 2654435769)) % 4294967296))
      (((A + bits BinOp.xor IntKind.u32 (bits BinOp.xor IntKind.u32 ((B * 16 + i0) % 4294967296) ((B + (S + 2654435769)) % 4294967296)) ((B / 32 + i1) % 4294967296)) % 4294967296 / 32 + i3) % 4294967296)) % 4294967296
def tN (i0 i1 i2 i3 b0 b1 : Int) : Nat → Int × Int × Int
  | 0 => (0, b0, b1)
  | n + 1 => (tS (tN i0 i1 i2 i3 b0 b1 n).1, tA i0 i1 (tN i0 i1 i2 i3 b0 b1 n).1 (tN i0 i1 i2 i3 b0 b1 n).2.1 (tN i0 i1 i2 i3 b0 b1 n).2.2, tB i0 i1 i2 i3 (tN i0 i1 i2 i3 b0 b1 n).1 (tN i0 i1 i2 i3 b0 b1 n).2.1 (tN i0 i1 i2 i3 b0 b1 n).2.2)
def Rel (i0 i1 i2 i3 b0 b1 : Int) (n : Nat) (s a b : Value) : Prop :=
  ∃ S A B : Int, s = .int .u32 S ∧ a = .int .u32 A ∧ b = .int .u32 B ∧ tN i0 i1 i2 i3 b0 b1 n = (S, A, B)
theorem Rel_next {i0 i1 i2 i3 b0 b1 : Int} {n : Nat} {S A B : Int} (h : tN i0 i1 i2 i3 b0 b1 n = (S, A, B)) :
    Rel i0 i1 i2 i3 b0 b1 (n + 1) (.int .u32 (tS S)) (.int .u32 (tA i0 i1 S A B)) (.int .u32 (tB i0 i1 i2 i3 S A B)) :=
  ⟨_, _, _, rfl, rfl, rfl, by simp [tN, h]⟩
/-- what the transform answers: its first and second word -/
def out0 (b0 b1 i0 i1 i2 i3 : Int) : Int := (b0 + (tN i0 i1 i2 i3 b0 b1 16).2.1) % 4294967296
def out1 (b0 b1 i0 i1 i2 i3 : Int) : Int := (b1 + (tN i0 i1 i2 i3 b0 b1 16).2.2) % 4294967296
theorem out0_of {b0 b1 i0 i1 i2 i3 S A B : Int} (h : tN i0 i1 i2 i3 b0 b1 16 = (S, A, B)) : (b0 + A) % 4294967296 = out0 b0 b1 i0 i1 i2 i3 := by
  simp [out0, h]
theorem out1_of {b0 b1 i0 i1 i2 i3 S A B : Int} (h : tN i0 i1 i2 i3 b0 b1 16 = (S, A, B)) : (b1 + B) % 4294967296 = out1 b0 b1 i0 i1 i2 i3 := by
  simp [out1, h]

set_option maxHeartbeats 400000 in
theorem tea_any (b0 b1 b2 b3 i0 i1 i2 i3 : Int) (w : World) (p : Nat) (hp : p < w.heap.size)
    (c0 : w.cell? ⟨p, 0, none⟩ = some (.int .u32 i0)) (c1 : w.cell? ⟨p, 1, none⟩ = some (.int .u32 i1))
    (c2 : w.cell? ⟨p, 2, none⟩ = some (.int .u32 i2)) (c3 : w.cell? ⟨p, 3, none⟩ = some (.int .u32 i3)) :
    Calls Try.prog 13 #[.agg #[.int .u32 b0, .int .u32 b1, .int .u32 b2, .int .u32 b3], .slice (some ⟨p, 0, none⟩) 4 4] w
      fun e w' => e = .returned (.agg #[.int .u32 (out0 b0 b1 i0 i1 i2 i3), .int .u32 (out1 b0 b1 i0 i1 i2 i3), .int .u32 b2, .int .u32 b3]) ∧ Below w.heap.size w w' := by
  go_enter Try.func13, Try.ntmps13
  go_wp2
  go_quiet (fail)
  go_wp2
  go_quiet (fail)
  go_wp2
  go_loop [5, 6, 7, 12] (fun s a b n => ∃ k : Nat, k ≤ 16 ∧ n = .int .i64 k ∧ Rel i0 i1 i2 i3 b0 b1 (16 - k) s a b) (fun _ _ _ n => (intOf n).toNat)
  case atStart => exact ⟨16, by omega, rfl, _, _, _, rfl, rfl, rfl, rfl⟩
  case round =>
    obtain ⟨k, hk, rfl, S, A, B, rfl, rfl, rfl, hN⟩ := hrel
    have HN := Lib.hid hN
    clear hN
    by_cases h : 0 < k
    · go_wp2
      have e : 16 - (k - 1) = 16 - k + 1 := by omega
      refine ⟨⟨_, _, _, _, ⟨k - 1, by omega, ?_, ?_⟩, rfl, rfl, rfl, rfl⟩, ?_⟩
      · go_num
      · rw [e]; exact Rel_next HN.out
      · simp [intOf]; omega
    · go_wp2
      obtain rfl : k = 0 := by omega
      rw [← out0_of HN.out, ← out1_of HN.out]
      refine bodyPost_ret (v := .agg #[.int .u32 ((b0 + A) % 4294967296), .int .u32 ((b1 + B) % 4294967296), .int .u32 b2, .int .u32 b3]) (by simp [results, Try.results13, go_sem]) rfl ⟨rfl, ?_⟩
      refine Below.setCell (Below.setCell (Below.setCell (Below.setCell (Below.setCell (Below.setCell (below_drewN (Below.alloc (Below.alloc (Below.refl _ _) ?_ _) ?_ _) _) ?_ _) ?_ _) ?_ _) ?_ _) ?_ _) ?_ _
      all_goals simp
end Go.Proofs.Ytginjbmjofkomaa
