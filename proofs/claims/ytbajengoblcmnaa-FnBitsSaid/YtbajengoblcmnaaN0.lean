/- Bits of bytes, in plain Lean. -/
import Derived.Test.YtbajengoblcmnaaInv
import Derived.Test.YtbajengoblcmnaaBlk
namespace Go.Proofs.Ytbajengoblcmnaa
open Go.RowKit
set_option linter.unusedVariables false

/-- numbers of a byte -/
def Byt (ys : List Int) : Prop := ∀ y ∈ ys, 0 ≤ y ∧ y < 256
/-- place p of the bytes' bits, the lowest of each byte first -/
def bitAt (ys : List Int) (p : Nat) : Bool := ys.getD (p / 8) 0 / 2 ^ (p % 8) % 2 == 1
def bitsOf (ys : List Int) : List Bool := (List.range (8 * ys.length)).map (bitAt ys)
theorem bitsOf_len (ys : List Int) : (bitsOf ys).length = 8 * ys.length := by simp [bitsOf]
theorem bitsOf_get (ys : List Int) (p : Nat) (h : p < 8 * ys.length) : (bitsOf ys)[p]? = some (bitAt ys p) := by simp [bitsOf, h]

/-- bit j of a byte -/
def bt (b : Int) (j : Nat) : Bool := b / 2 ^ j % 2 == 1
def orB (b : Int) (j : Nat) : Int := bits BinOp.or IntKind.u8 b (2 ^ j % 256)
def clB (b : Int) (j : Nat) : Int := bits BinOp.and IntKind.u8 b (255 - 2 ^ j % 256)

theorem byte_ex {b : Int} (h0 : 0 ≤ b) (h1 : b < 256) : ∃ n : Nat, n < 256 ∧ b = (n : Int) := ⟨b.toNat, by omega, by omega⟩
theorem and_bit {b : Int} (h0 : 0 ≤ b) (h1 : b < 256) {j : Nat} (hj : j < 8) : bits BinOp.and IntKind.u8 b (2 ^ j % 256) = if bt b j = true then 2 ^ j else 0 := by
  obtain ⟨n, hn, rfl⟩ := byte_ex h0 h1
  clear h0 h1
  revert n j
  decide +kernel
theorem orB_bd {b : Int} (h0 : 0 ≤ b) (h1 : b < 256) {j : Nat} (hj : j < 8) : 0 ≤ orB b j ∧ orB b j < 256 := by
  obtain ⟨n, hn, rfl⟩ := byte_ex h0 h1
  clear h0 h1
  revert n j
  decide +kernel
theorem clB_bd {b : Int} (h0 : 0 ≤ b) (h1 : b < 256) {j : Nat} (hj : j < 8) : 0 ≤ clB b j ∧ clB b j < 256 := by
  obtain ⟨n, hn, rfl⟩ := byte_ex h0 h1
  clear h0 h1
  revert n j
  decide +kernel
theorem bt_orB {b : Int} (h0 : 0 ≤ b) (h1 : b < 256) {j : Nat} (hj : j < 8) {k : Nat} (hk : k < 8) : bt (orB b j) k = if k = j then true else bt b k := by
  obtain ⟨n, hn, rfl⟩ := byte_ex h0 h1
  clear h0 h1
  revert n j k
  decide +kernel
theorem bt_clB {b : Int} (h0 : 0 ≤ b) (h1 : b < 256) {j : Nat} (hj : j < 8) {k : Nat} (hk : k < 8) : bt (clB b j) k = if k = j then false else bt b k := by
  obtain ⟨n, hn, rfl⟩ := byte_ex h0 h1
  clear h0 h1
  revert n j k
  decide +kernel
theorem bt_all_255 {j : Nat} (hj : j < 8) : bt 255 j = true := by revert j; decide +kernel
theorem bt_all_0 {j : Nat} (hj : j < 8) : bt 0 j = false := by revert j; decide +kernel
theorem bt_shr {b : Int} (h0 : 0 ≤ b) (h1 : b < 256) {j : Nat} (hj : j < 8) : (bits BinOp.and IntKind.u8 (b / 2 ^ j) 1 == 1) = bt b j := by
  obtain ⟨n, hn, rfl⟩ := byte_ex h0 h1
  clear h0 h1
  revert n j
  decide +kernel
end Go.Proofs.Ytbajengoblcmnaa
