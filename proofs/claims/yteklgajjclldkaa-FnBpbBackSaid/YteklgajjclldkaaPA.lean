/- Bytes that lie in a block, and the readers of two and four of them. -/
import Derived.Test.YteklgajjclldkaaInst
import Derived.Test.YteklgajjclldkaaInv
import Derived.Laws.BytesArg
import Derived.Laws.IdiomStrings
import Derived.Lib.EndianBits
import Derived.Outline
namespace Go.Proofs.Yteklgajjclldkaa
open Go.RowKit
set_option linter.unusedVariables false

def p8 (ys : List Int) (o : Nat) : Int := ys.getD o 0
def p16 (ys : List Int) (o : Nat) : Int := ys.getD o 0 + ys.getD (o + 1) 0 * 256
def p32 (ys : List Int) (o : Nat) : Int := ys.getD o 0 + ys.getD (o + 1) 0 * 256 + ys.getD (o + 2) 0 * 65536 + ys.getD (o + 3) 0 * 16777216
/-- numbers of a byte -/
def Byt (ys : List Int) : Prop := ∀ i : Nat, 0 ≤ ys.getD i 0 ∧ ys.getD i 0 < 256
theorem Byt.p8 {ys : List Int} (h : Byt ys) (o : Nat) : 0 ≤ p8 ys o ∧ p8 ys o ≤ 255 := by have := h o; unfold Proofs.Yteklgajjclldkaa.p8; omega
theorem Byt.p16 {ys : List Int} (h : Byt ys) (o : Nat) : 0 ≤ p16 ys o ∧ p16 ys o ≤ 65535 := by have := h o; have := h (o + 1); unfold Proofs.Yteklgajjclldkaa.p16; omega
theorem Byt.p32 {ys : List Int} (h : Byt ys) (o : Nat) : 0 ≤ p32 ys o ∧ p32 ys o ≤ 4294967295 := by have := h o; have := h (o + 1); have := h (o + 2); have := h (o + 3); unfold Proofs.Yteklgajjclldkaa.p32; omega
/-- the bytes lie at block g -/
def Bys (w : World) (g : Nat) (ys : List Int) : Prop := ∀ i, i < ys.length → w.cell? ⟨g, i, none⟩ = some (.int .u8 (ys.getD i 0))
theorem Bys.below {w w' : World} {B g : Nat} {ys : List Int} (h : Bys w g ys) (hb : Below B w w') (hg : g < B) : Bys w' g ys := fun i hi => (hb.cell (p := ⟨g, i, none⟩) hg).trans (h i hi)

theorem or_u16 (y0 y1 : Int) (a0 : 0 ≤ y0) (b0 : y0 < 256) (a1 : 0 ≤ y1) (b1 : y1 < 256) : bits BinOp.or IntKind.u16 y0 (y1 * 256) = y0 + y1 * 256 :=
  bits_join_low .u16 16 (by decide) (fun n h0 h1 => by rw [IntKind.wrap_u16]; omega) 8 y0 (y1 * 256) a0 (by omega) (by omega) (by omega) (by omega) (by omega)
theorem or_u32 (y0 y1 y2 y3 : Int) (a0 : 0 ≤ y0) (b0 : y0 < 256) (a1 : 0 ≤ y1) (b1 : y1 < 256) (a2 : 0 ≤ y2) (b2 : y2 < 256) (a3 : 0 ≤ y3) (b3 : y3 < 256) :
    bits BinOp.or IntKind.u32 (bits BinOp.or IntKind.u32 (bits BinOp.or IntKind.u32 y0 (y1 * 256)) (y2 * 65536)) (y3 * 16777216) = y0 + y1 * 256 + y2 * 65536 + y3 * 16777216 := by
  have hk : ∀ n : Int, 0 ≤ n → n < 2 ^ 32 → IntKind.u32.wrap n = n := fun n h0 h1 => by rw [IntKind.wrap_u32]; omega
  rw [bits_join_low .u32 32 (by decide) hk 8 y0 (y1 * 256) a0 (by omega) (by omega) (by omega) (by omega) (by omega),
    bits_join_low .u32 32 (by decide) hk 16 (y0 + y1 * 256) (y2 * 65536) (by omega) (by omega) (by omega) (by omega) (by omega) (by omega),
    bits_join_low .u32 32 (by decide) hk 24 (y0 + y1 * 256 + y2 * 65536) (y3 * 16777216) (by omega) (by omega) (by omega) (by omega) (by omega) (by omega)]
theorem or_n16 (y0 y1 : Int) (a0 : 0 ≤ y0) (b0 : y0 < 256) (a1 : 0 ≤ y1) (b1 : y1 < 256) : bits BinOp.or IntKind.i64 y0 (y1 * 256) = y0 + y1 * 256 :=
  bits_join_low .i64 40 (by decide) (fun n h0 h1 => IntWalk.i64_in n (by omega)) 8 y0 (y1 * 256) a0 (by omega) (by omega) (by omega) (by omega) (by omega)
theorem or_n32 (x y : Int) (a0 : 0 ≤ x) (b0 : x < 65536) (a1 : 0 ≤ y) (b1 : y < 65536) : bits BinOp.or IntKind.i64 x (y * 65536) = x + y * 65536 :=
  bits_join_low .i64 40 (by decide) (fun n h0 h1 => IntWalk.i64_in n (by omega)) 16 x (y * 65536) a0 (by omega) (by omega) (by omega) (by omega) (by omega)

theorem ret_k {k : IntKind} {a b : Int} (h : a = b) : Ending.returned (.int k a) = .returned (.int k b) := by rw [h]
theorem w16 (x : Int) (h0 : 0 ≤ x) (h1 : x < 65536) : IntKind.u16.wrap x = x := by rw [IntKind.wrap_u16]; omega
theorem w32 (x : Int) (h0 : 0 ≤ x) (h1 : x < 4294967296) : IntKind.u32.wrap x = x := by rw [IntKind.wrap_u32]; omega
theorem r16_any (g o c : Nat) (y0 y1 : Int) (w : World) (c0 : w.cell? ⟨g, o, none⟩ = some (.int .u8 y0)) (c1 : w.cell? ⟨g, o + 1, none⟩ = some (.int .u8 y1)) (a0 : 0 ≤ y0) (b0 : y0 < 256) (a1 : 0 ≤ y1) (b1 : y1 < 256) (hg : g < w.heap.size) :
    Calls Try.prog 25 #[.agg #[], .slice (some ⟨g, o, none⟩) 2 c] w fun e w' => e = .returned (.int .u16 (y0 + y1 * 256)) ∧ w' = (w.alloc (.cells #[] 64)).drew := by
  have h4 := Lib.hid (or_u16 y0 y1 a0 b0 a1 b1)
  go_enter Try.func25, Try.ntmps25
  go_wp2
  go_region_held3 (fun w' => w'.cell? ⟨g, o, none⟩ = some (.int .u8 y0) ∧ w'.cell? ⟨g, o + 1, none⟩ = some (.int .u8 y1))
    (first | (with_reducible assumption) | (simp [go_sem, *]; done)) (fail)
  go_wp2
  go_ret
  refine ⟨ret_k ?_, rfl⟩
  rw [w16 y0 a0 (by omega), w16 y1 a1 (by omega), w16 (y1 * 256) (by omega) (by omega)]
  exact h4.out
theorem r32_any (g o c : Nat) (y0 y1 y2 y3 : Int) (w : World) (c0 : w.cell? ⟨g, o, none⟩ = some (.int .u8 y0)) (c1 : w.cell? ⟨g, o + 1, none⟩ = some (.int .u8 y1)) (c2 : w.cell? ⟨g, o + 2, none⟩ = some (.int .u8 y2)) (c3 : w.cell? ⟨g, o + 3, none⟩ = some (.int .u8 y3))
    (a0 : 0 ≤ y0) (b0 : y0 < 256) (a1 : 0 ≤ y1) (b1 : y1 < 256) (a2 : 0 ≤ y2) (b2 : y2 < 256) (a3 : 0 ≤ y3) (b3 : y3 < 256) (hg : g < w.heap.size) :
    Calls Try.prog 26 #[.agg #[], .slice (some ⟨g, o, none⟩) 4 c] w fun e w' => e = .returned (.int .u32 (y0 + y1 * 256 + y2 * 65536 + y3 * 16777216)) ∧ w' = (w.alloc (.cells #[] 64)).drew := by
  have h4 := Lib.hid (or_u32 y0 y1 y2 y3 a0 b0 a1 b1 a2 b2 a3 b3)
  go_enter Try.func26, Try.ntmps26
  go_wp2
  go_region_held3 (fun w' => w'.cell? ⟨g, o, none⟩ = some (.int .u8 y0) ∧ w'.cell? ⟨g, o + 1, none⟩ = some (.int .u8 y1) ∧ w'.cell? ⟨g, o + 2, none⟩ = some (.int .u8 y2) ∧ w'.cell? ⟨g, o + 3, none⟩ = some (.int .u8 y3))
    (first | (with_reducible assumption) | (simp [go_sem, *]; done)) (fail)
  go_wp2
  go_ret
  refine ⟨ret_k ?_, rfl⟩
  rw [w32 y0 a0 (by omega), w32 y1 a1 (by omega), w32 y2 a2 (by omega), w32 y3 a3 (by omega), w32 (y1 * 256) (by omega) (by omega), w32 (y2 * 65536) (by omega) (by omega), w32 (y3 * 16777216) (by omega) (by omega)]
  exact h4.out
theorem r16_S (g o c : Nat) (ys : List Int) (w : World) (hS : Bys w g ys) (hB : Byt ys) (ho : o + 1 < ys.length) (hg : g < w.heap.size) :
    Calls Try.prog 25 #[.agg #[], .slice (some ⟨g, o, none⟩) 2 c] w fun e w' => e = .returned (.int .u16 (p16 ys o)) ∧ w' = (w.alloc (.cells #[] 64)).drew :=
  r16_any g o c _ _ w (hS o (by omega)) (hS (o + 1) ho) (hB o).1 (hB o).2 (hB (o + 1)).1 (hB (o + 1)).2 hg
theorem r32_S (g o c : Nat) (ys : List Int) (w : World) (hS : Bys w g ys) (hB : Byt ys) (ho : o + 3 < ys.length) (hg : g < w.heap.size) :
    Calls Try.prog 26 #[.agg #[], .slice (some ⟨g, o, none⟩) 4 c] w fun e w' => e = .returned (.int .u32 (p32 ys o)) ∧ w' = (w.alloc (.cells #[] 64)).drew :=
  r32_any g o c _ _ _ _ w (hS o (by omega)) (hS (o + 1) (by omega)) (hS (o + 2) (by omega)) (hS (o + 3) ho) (hB o).1 (hB o).2 (hB (o + 1)).1 (hB (o + 1)).2 (hB (o + 2)).1 (hB (o + 2)).2 (hB (o + 3)).1 (hB (o + 3)).2 hg
end Go.Proofs.Yteklgajjclldkaa
