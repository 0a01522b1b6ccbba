/- Equal in one contract; the walk of BpbEqual. -/
import Derived.Test.YthocgjaloflclaaE
import Derived.Test.YthocgjaloflclaaF
import Derived.Test.YthocgjaloflclaaG
namespace Go.Proofs.Ythocgjaloflclaa
open Go.RowKit
attribute [local go_sem ↓] Go.wp_at_zero Go.wp_at_succ
set_option linter.unusedVariables false

/-- all fields that Equal looks at are the same -/
def eqB (x1 x2 x3 x4 x5 x6 x7 x8 x9 x10 x11 x12 y1 y2 y3 y4 y5 y6 y7 y8 y9 y10 y11 y12 : Int) : Bool := eq8 x1 x2 x3 x4 x5 x6 x7 x8 y1 y2 y3 y4 y5 y6 y7 y8 && (x9 == y9 && (x10 == y10 && (x11 == y11 && x12 == y12)))
theorem equal_any (p q p' q' : Nat) (x1 x2 x3 x4 x5 x6 x7 x8 x9 x10 x11 x12 y1 y2 y3 y4 y5 y6 y7 y8 y9 y10 y11 y12 : Int) (w : World)
    (hp : blkD w p = #[.pointer (some ⟨q, 0, none⟩), .int .u16 x9, .int .u16 x10, .int .u32 x11, .int .u32 x12]) (hq : blkD w q = #[.int .u16 x1, .int .u8 x2, .int .u16 x3, .int .u8 x4, .int .u16 x5, .int .u16 x6, .int .u8 x7, .int .u16 x8]) (hp' : blkD w p' = #[.pointer (some ⟨q', 0, none⟩), .int .u16 y9, .int .u16 y10, .int .u32 y11, .int .u32 y12]) (hq' : blkD w q' = #[.int .u16 y1, .int .u8 y2, .int .u16 y3, .int .u8 y4, .int .u16 y5, .int .u16 y6, .int .u8 y7, .int .u16 y8]) :
    Calls Try.prog 14 #[.pointer (some ⟨p, 0, none⟩), .pointer (some ⟨p', 0, none⟩)] w fun e w' => e = .returned (.bool (eqB x1 x2 x3 x4 x5 x6 x7 x8 x9 x10 x11 x12 y1 y2 y3 y4 y5 y6 y7 y8 y9 y10 y11 y12)) ∧ ∃ n, w' = w.drewN n := by
  cases h8 : eq8 x1 x2 x3 x4 x5 x6 x7 x8 y1 y2 y3 y4 y5 y6 y7 y8
  · refine (equal_no8 (h8 := h8) (hp := hp) (hq := hq) (hp' := hp') (hq' := hq')).mono ?_
    rintro e w' ⟨rfl, hn⟩
    exact ⟨by simp [eqB, h8], hn⟩
  · by_cases h9 : x9 = y9
    · subst h9
      by_cases h10 : x10 = y10
      · subst h10
        by_cases h11 : x11 = y11
        · subst h11
          by_cases h12 : x12 = y12
          · subst h12
            refine (equal_all (h8 := h8) (hp := hp) (hq := hq) (hp' := hp') (hq' := hq')).mono ?_
            rintro e w' ⟨rfl, hn⟩
            exact ⟨by simp [eqB, h8], hn⟩
          · refine (equal_no12 (h8 := h8) (hne := by simpa using h12) (hp := hp) (hq := hq) (hp' := hp') (hq' := hq')).mono ?_
            rintro e w' ⟨rfl, hn⟩
            exact ⟨by simp [eqB, h12], hn⟩
        · refine (equal_no11 (h8 := h8) (hne := by simpa using h11) (hp := hp) (hq := hq) (hp' := hp') (hq' := hq')).mono ?_
          rintro e w' ⟨rfl, hn⟩
          exact ⟨by simp [eqB, h11], hn⟩
      · refine (equal_no10 (h8 := h8) (hne := by simpa using h10) (hp := hp) (hq := hq) (hp' := hp') (hq' := hq')).mono ?_
        rintro e w' ⟨rfl, hn⟩
        exact ⟨by simp [eqB, h10], hn⟩
    · refine (equal_no9 (h8 := h8) (hne := by simpa using h9) (hp := hp) (hq := hq) (hp' := hp') (hq' := hq')).mono ?_
      rintro e w' ⟨rfl, hn⟩
      exact ⟨by simp [eqB, h9], hn⟩

/-- all numbers fit their fields -/
def Fits (x1 x2 x3 x4 x5 x6 x7 x8 x9 x10 x11 x12 x13 x14 x15 x16 : Int) : Prop := (0 ≤ x1 ∧ x1 ≤ 65535) ∧ (0 ≤ x2 ∧ x2 ≤ 255) ∧ (0 ≤ x3 ∧ x3 ≤ 65535) ∧ (0 ≤ x4 ∧ x4 ≤ 255) ∧ (0 ≤ x5 ∧ x5 ≤ 65535) ∧ (0 ≤ x6 ∧ x6 ≤ 65535) ∧ (0 ≤ x7 ∧ x7 ≤ 255) ∧ (0 ≤ x8 ∧ x8 ≤ 65535) ∧ (0 ≤ x9 ∧ x9 ≤ 65535) ∧ (0 ≤ x10 ∧ x10 ≤ 65535) ∧ (0 ≤ x11 ∧ x11 ≤ 4294967295) ∧ (0 ≤ x12 ∧ x12 ≤ 4294967295) ∧ (0 ≤ x13 ∧ x13 ≤ 255) ∧ (0 ≤ x14 ∧ x14 ≤ 255) ∧ (0 ≤ x15 ∧ x15 ≤ 255) ∧ (0 ≤ x16 ∧ x16 ≤ 4294967295)
theorem fits_fits (x0 x1 x2 x3 x4 x5 x6 x7 x8 x9 x10 x11 x12 x13 x14 x15 x16 : Int) (s t : ByteArray) (w : World) (h : Fits x1 x2 x3 x4 x5 x6 x7 x8 x9 x10 x11 x12 x13 x14 x15 x16) :
    Calls Try.prog 10 #[.agg #[.int .i64 x0, .int .i64 x1, .int .i64 x2, .int .i64 x3, .int .i64 x4, .int .i64 x5, .int .i64 x6, .int .i64 x7, .int .i64 x8, .int .i64 x9, .int .i64 x10, .int .i64 x11, .int .i64 x12, .int .i64 x13, .int .i64 x14, .int .i64 x15, .int .i64 x16, .string s, .string t]] w fun e w' => e = .returned (.bool true) ∧ w' = (((w.alloc (.cells #[.int .i64 x0, .int .i64 x1, .int .i64 x2, .int .i64 x3, .int .i64 x4, .int .i64 x5, .int .i64 x6, .int .i64 x7, .int .i64 x8, .int .i64 x9, .int .i64 x10, .int .i64 x11, .int .i64 x12, .int .i64 x13, .int .i64 x14, .int .i64 x15, .int .i64 x16, .string s, .string t] 25)).alloc (.cells #[.int .i64 x1, .int .i64 x3, .int .i64 x5, .int .i64 x6, .int .i64 x8, .int .i64 x9, .int .i64 x10] 3)).alloc (.cells #[.int .i64 x2, .int .i64 x4, .int .i64 x7, .int .i64 x13, .int .i64 x14, .int .i64 x15] 3)).alloc (.cells #[.int .i64 x11, .int .i64 x12, .int .i64 x16] 3) := fits_any x0 x1 x2 x3 x4 x5 x6 x7 x8 x9 x10 x11 x12 x13 x14 x15 x16 s t w h.1.1 h.1.2 h.2.1.1 h.2.1.2 h.2.2.1.1 h.2.2.1.2 h.2.2.2.1.1 h.2.2.2.1.2 h.2.2.2.2.1.1 h.2.2.2.2.1.2 h.2.2.2.2.2.1.1 h.2.2.2.2.2.1.2 h.2.2.2.2.2.2.1.1 h.2.2.2.2.2.2.1.2 h.2.2.2.2.2.2.2.1.1 h.2.2.2.2.2.2.2.1.2 h.2.2.2.2.2.2.2.2.1.1 h.2.2.2.2.2.2.2.2.1.2 h.2.2.2.2.2.2.2.2.2.1.1 h.2.2.2.2.2.2.2.2.2.1.2 h.2.2.2.2.2.2.2.2.2.2.1.1 h.2.2.2.2.2.2.2.2.2.2.1.2 h.2.2.2.2.2.2.2.2.2.2.2.1.1 h.2.2.2.2.2.2.2.2.2.2.2.1.2 h.2.2.2.2.2.2.2.2.2.2.2.2.1.1 h.2.2.2.2.2.2.2.2.2.2.2.2.1.2 h.2.2.2.2.2.2.2.2.2.2.2.2.2.1.1 h.2.2.2.2.2.2.2.2.2.2.2.2.2.1.2 h.2.2.2.2.2.2.2.2.2.2.2.2.2.2.1.1 h.2.2.2.2.2.2.2.2.2.2.2.2.2.2.1.2 h.2.2.2.2.2.2.2.2.2.2.2.2.2.2.2.1 h.2.2.2.2.2.2.2.2.2.2.2.2.2.2.2.2
theorem three_fits (x0 x1 x2 x3 x4 x5 x6 x7 x8 x9 x10 x11 x12 x13 x14 x15 x16 : Int) (s t : ByteArray) (w : World) (h : Fits x1 x2 x3 x4 x5 x6 x7 x8 x9 x10 x11 x12 x13 x14 x15 x16) :
    Calls Try.prog 13 #[.agg #[.int .i64 x0, .int .i64 x1, .int .i64 x2, .int .i64 x3, .int .i64 x4, .int .i64 x5, .int .i64 x6, .int .i64 x7, .int .i64 x8, .int .i64 x9, .int .i64 x10, .int .i64 x11, .int .i64 x12, .int .i64 x13, .int .i64 x14, .int .i64 x15, .int .i64 x16, .string s, .string t]] w fun e w' => e = .returned (.pointer (some ⟨w.heap.size + 1 + 1 + 1, 0, none⟩)) ∧ w' = ((((w.alloc (.cells #[.int .i64 x0, .int .i64 x1, .int .i64 x2, .int .i64 x3, .int .i64 x4, .int .i64 x5, .int .i64 x6, .int .i64 x7, .int .i64 x8, .int .i64 x9, .int .i64 x10, .int .i64 x11, .int .i64 x12, .int .i64 x13, .int .i64 x14, .int .i64 x15, .int .i64 x16, .string s, .string t] 25)).alloc (.cells #[.int .i64 x0, .int .i64 x1, .int .i64 x2, .int .i64 x3, .int .i64 x4, .int .i64 x5, .int .i64 x6, .int .i64 x7, .int .i64 x8, .int .i64 x9, .int .i64 x10, .int .i64 x11, .int .i64 x12, .int .i64 x13, .int .i64 x14, .int .i64 x15, .int .i64 x16, .string s, .string t] 25)).alloc (.cells #[.int .u16 x1, .int .u8 x2, .int .u16 x3, .int .u8 x4, .int .u16 x5, .int .u16 x6, .int .u8 x7, .int .u16 x8] 49)).alloc (.cells #[.pointer (some ⟨w.heap.size + 1 + 1, 0, none⟩), .int .u16 x9, .int .u16 x10, .int .u32 x11, .int .u32 x12] 46)).drew := three_any x0 x1 x2 x3 x4 x5 x6 x7 x8 x9 x10 x11 x12 x13 x14 x15 x16 s t w h.1.1 h.1.2 h.2.1.1 h.2.1.2 h.2.2.1.1 h.2.2.1.2 h.2.2.2.1.1 h.2.2.2.1.2 h.2.2.2.2.1.1 h.2.2.2.2.1.2 h.2.2.2.2.2.1.1 h.2.2.2.2.2.1.2 h.2.2.2.2.2.2.1.1 h.2.2.2.2.2.2.1.2 h.2.2.2.2.2.2.2.1.1 h.2.2.2.2.2.2.2.1.2 h.2.2.2.2.2.2.2.2.1.1 h.2.2.2.2.2.2.2.2.1.2 h.2.2.2.2.2.2.2.2.2.1.1 h.2.2.2.2.2.2.2.2.2.1.2 h.2.2.2.2.2.2.2.2.2.2.1.1 h.2.2.2.2.2.2.2.2.2.2.1.2 h.2.2.2.2.2.2.2.2.2.2.2.1.1 h.2.2.2.2.2.2.2.2.2.2.2.1.2 h.2.2.2.2.2.2.2.2.2.2.2.2.1.1 h.2.2.2.2.2.2.2.2.2.2.2.2.1.2 h.2.2.2.2.2.2.2.2.2.2.2.2.2.1.1 h.2.2.2.2.2.2.2.2.2.2.2.2.2.1.2 h.2.2.2.2.2.2.2.2.2.2.2.2.2.2.1.1 h.2.2.2.2.2.2.2.2.2.2.2.2.2.2.1.2 h.2.2.2.2.2.2.2.2.2.2.2.2.2.2.2.1 h.2.2.2.2.2.2.2.2.2.2.2.2.2.2.2.2
@[go_sem] theorem ltb_add7 (n : Nat) : (n < n + 1 + 1 + 1 + 1 + 1 + 1 + 1) = True := by simp; omega
@[go_sem] theorem neb_add7 (n : Nat) : (n + 1 + 1 + 1 + 1 + 1 + 1 + 1 = n) = False := by simp; try omega
@[go_sem] theorem neb_add7' (n : Nat) : (n = n + 1 + 1 + 1 + 1 + 1 + 1 + 1) = False := by simp; try omega
@[go_sem] theorem ltb_add8 (n : Nat) : (n < n + 1 + 1 + 1 + 1 + 1 + 1 + 1 + 1) = True := by simp; omega
@[go_sem] theorem neb_add8 (n : Nat) : (n + 1 + 1 + 1 + 1 + 1 + 1 + 1 + 1 = n) = False := by simp; try omega
@[go_sem] theorem neb_add8' (n : Nat) : (n = n + 1 + 1 + 1 + 1 + 1 + 1 + 1 + 1) = False := by simp; try omega
@[go_sem] theorem ltb_add9 (n : Nat) : (n < n + 1 + 1 + 1 + 1 + 1 + 1 + 1 + 1 + 1) = True := by simp; omega
@[go_sem] theorem neb_add9 (n : Nat) : (n + 1 + 1 + 1 + 1 + 1 + 1 + 1 + 1 + 1 = n) = False := by simp; try omega
@[go_sem] theorem neb_add9' (n : Nat) : (n = n + 1 + 1 + 1 + 1 + 1 + 1 + 1 + 1 + 1) = False := by simp; try omega
@[go_sem] theorem ltb_add10 (n : Nat) : (n < n + 1 + 1 + 1 + 1 + 1 + 1 + 1 + 1 + 1 + 1) = True := by simp; omega
@[go_sem] theorem neb_add10 (n : Nat) : (n + 1 + 1 + 1 + 1 + 1 + 1 + 1 + 1 + 1 + 1 = n) = False := by simp; try omega
@[go_sem] theorem neb_add10' (n : Nat) : (n = n + 1 + 1 + 1 + 1 + 1 + 1 + 1 + 1 + 1 + 1) = False := by simp; try omega
@[go_sem] theorem ltb_add11 (n : Nat) : (n < n + 1 + 1 + 1 + 1 + 1 + 1 + 1 + 1 + 1 + 1 + 1) = True := by simp; omega
@[go_sem] theorem neb_add11 (n : Nat) : (n + 1 + 1 + 1 + 1 + 1 + 1 + 1 + 1 + 1 + 1 + 1 = n) = False := by simp; try omega
@[go_sem] theorem neb_add11' (n : Nat) : (n = n + 1 + 1 + 1 + 1 + 1 + 1 + 1 + 1 + 1 + 1 + 1) = False := by simp; try omega
@[go_sem] theorem ltb_add12 (n : Nat) : (n < n + 1 + 1 + 1 + 1 + 1 + 1 + 1 + 1 + 1 + 1 + 1 + 1) = True := by simp; omega
@[go_sem] theorem neb_add12 (n : Nat) : (n + 1 + 1 + 1 + 1 + 1 + 1 + 1 + 1 + 1 + 1 + 1 + 1 = n) = False := by simp; try omega
@[go_sem] theorem neb_add12' (n : Nat) : (n = n + 1 + 1 + 1 + 1 + 1 + 1 + 1 + 1 + 1 + 1 + 1 + 1) = False := by simp; try omega
@[go_sem] theorem ltb_add13 (n : Nat) : (n < n + 1 + 1 + 1 + 1 + 1 + 1 + 1 + 1 + 1 + 1 + 1 + 1 + 1) = True := by simp; omega
@[go_sem] theorem neb_add13 (n : Nat) : (n + 1 + 1 + 1 + 1 + 1 + 1 + 1 + 1 + 1 + 1 + 1 + 1 + 1 = n) = False := by simp; try omega
@[go_sem] theorem neb_add13' (n : Nat) : (n = n + 1 + 1 + 1 + 1 + 1 + 1 + 1 + 1 + 1 + 1 + 1 + 1 + 1) = False := by simp; try omega
@[go_sem] theorem ltb_add14 (n : Nat) : (n < n + 1 + 1 + 1 + 1 + 1 + 1 + 1 + 1 + 1 + 1 + 1 + 1 + 1 + 1) = True := by simp; omega
@[go_sem] theorem neb_add14 (n : Nat) : (n + 1 + 1 + 1 + 1 + 1 + 1 + 1 + 1 + 1 + 1 + 1 + 1 + 1 + 1 = n) = False := by simp; try omega
@[go_sem] theorem neb_add14' (n : Nat) : (n = n + 1 + 1 + 1 + 1 + 1 + 1 + 1 + 1 + 1 + 1 + 1 + 1 + 1 + 1) = False := by simp; try omega
@[go_sem] theorem ltb_add15 (n : Nat) : (n < n + 1 + 1 + 1 + 1 + 1 + 1 + 1 + 1 + 1 + 1 + 1 + 1 + 1 + 1 + 1) = True := by simp; omega
@[go_sem] theorem neb_add15 (n : Nat) : (n + 1 + 1 + 1 + 1 + 1 + 1 + 1 + 1 + 1 + 1 + 1 + 1 + 1 + 1 + 1 = n) = False := by simp; try omega
@[go_sem] theorem neb_add15' (n : Nat) : (n = n + 1 + 1 + 1 + 1 + 1 + 1 + 1 + 1 + 1 + 1 + 1 + 1 + 1 + 1 + 1) = False := by simp; try omega
@[go_sem] theorem ltb_add16 (n : Nat) : (n < n + 1 + 1 + 1 + 1 + 1 + 1 + 1 + 1 + 1 + 1 + 1 + 1 + 1 + 1 + 1 + 1) = True := by simp; omega
@[go_sem] theorem neb_add16 (n : Nat) : (n + 1 + 1 + 1 + 1 + 1 + 1 + 1 + 1 + 1 + 1 + 1 + 1 + 1 + 1 + 1 + 1 = n) = False := by simp; try omega
@[go_sem] theorem neb_add16' (n : Nat) : (n = n + 1 + 1 + 1 + 1 + 1 + 1 + 1 + 1 + 1 + 1 + 1 + 1 + 1 + 1 + 1 + 1) = False := by simp; try omega
@[go_sem] theorem ltb_add17 (n : Nat) : (n < n + 1 + 1 + 1 + 1 + 1 + 1 + 1 + 1 + 1 + 1 + 1 + 1 + 1 + 1 + 1 + 1 + 1) = True := by simp; omega
@[go_sem] theorem neb_add17 (n : Nat) : (n + 1 + 1 + 1 + 1 + 1 + 1 + 1 + 1 + 1 + 1 + 1 + 1 + 1 + 1 + 1 + 1 + 1 = n) = False := by simp; try omega
@[go_sem] theorem neb_add17' (n : Nat) : (n = n + 1 + 1 + 1 + 1 + 1 + 1 + 1 + 1 + 1 + 1 + 1 + 1 + 1 + 1 + 1 + 1 + 1) = False := by simp; try omega
@[go_sem] theorem ltb_add18 (n : Nat) : (n < n + 1 + 1 + 1 + 1 + 1 + 1 + 1 + 1 + 1 + 1 + 1 + 1 + 1 + 1 + 1 + 1 + 1 + 1) = True := by simp; omega
@[go_sem] theorem neb_add18 (n : Nat) : (n + 1 + 1 + 1 + 1 + 1 + 1 + 1 + 1 + 1 + 1 + 1 + 1 + 1 + 1 + 1 + 1 + 1 + 1 = n) = False := by simp; try omega
@[go_sem] theorem neb_add18' (n : Nat) : (n = n + 1 + 1 + 1 + 1 + 1 + 1 + 1 + 1 + 1 + 1 + 1 + 1 + 1 + 1 + 1 + 1 + 1 + 1) = False := by simp; try omega
@[go_sem] theorem ltb_add19 (n : Nat) : (n < n + 1 + 1 + 1 + 1 + 1 + 1 + 1 + 1 + 1 + 1 + 1 + 1 + 1 + 1 + 1 + 1 + 1 + 1 + 1) = True := by simp; omega
@[go_sem] theorem neb_add19 (n : Nat) : (n + 1 + 1 + 1 + 1 + 1 + 1 + 1 + 1 + 1 + 1 + 1 + 1 + 1 + 1 + 1 + 1 + 1 + 1 + 1 = n) = False := by simp; try omega
@[go_sem] theorem neb_add19' (n : Nat) : (n = n + 1 + 1 + 1 + 1 + 1 + 1 + 1 + 1 + 1 + 1 + 1 + 1 + 1 + 1 + 1 + 1 + 1 + 1 + 1) = False := by simp; try omega
@[go_sem] theorem ltb_add20 (n : Nat) : (n < n + 1 + 1 + 1 + 1 + 1 + 1 + 1 + 1 + 1 + 1 + 1 + 1 + 1 + 1 + 1 + 1 + 1 + 1 + 1 + 1) = True := by simp; omega
@[go_sem] theorem neb_add20 (n : Nat) : (n + 1 + 1 + 1 + 1 + 1 + 1 + 1 + 1 + 1 + 1 + 1 + 1 + 1 + 1 + 1 + 1 + 1 + 1 + 1 + 1 = n) = False := by simp; try omega
@[go_sem] theorem neb_add20' (n : Nat) : (n = n + 1 + 1 + 1 + 1 + 1 + 1 + 1 + 1 + 1 + 1 + 1 + 1 + 1 + 1 + 1 + 1 + 1 + 1 + 1 + 1) = False := by simp; try omega
@[go_sem] theorem ltb_add21 (n : Nat) : (n < n + 1 + 1 + 1 + 1 + 1 + 1 + 1 + 1 + 1 + 1 + 1 + 1 + 1 + 1 + 1 + 1 + 1 + 1 + 1 + 1 + 1) = True := by simp; omega
@[go_sem] theorem neb_add21 (n : Nat) : (n + 1 + 1 + 1 + 1 + 1 + 1 + 1 + 1 + 1 + 1 + 1 + 1 + 1 + 1 + 1 + 1 + 1 + 1 + 1 + 1 + 1 = n) = False := by simp; try omega
@[go_sem] theorem neb_add21' (n : Nat) : (n = n + 1 + 1 + 1 + 1 + 1 + 1 + 1 + 1 + 1 + 1 + 1 + 1 + 1 + 1 + 1 + 1 + 1 + 1 + 1 + 1 + 1) = False := by simp; try omega
@[go_sem] theorem ltb_add22 (n : Nat) : (n < n + 1 + 1 + 1 + 1 + 1 + 1 + 1 + 1 + 1 + 1 + 1 + 1 + 1 + 1 + 1 + 1 + 1 + 1 + 1 + 1 + 1 + 1) = True := by simp; omega
@[go_sem] theorem neb_add22 (n : Nat) : (n + 1 + 1 + 1 + 1 + 1 + 1 + 1 + 1 + 1 + 1 + 1 + 1 + 1 + 1 + 1 + 1 + 1 + 1 + 1 + 1 + 1 + 1 = n) = False := by simp; try omega
@[go_sem] theorem neb_add22' (n : Nat) : (n = n + 1 + 1 + 1 + 1 + 1 + 1 + 1 + 1 + 1 + 1 + 1 + 1 + 1 + 1 + 1 + 1 + 1 + 1 + 1 + 1 + 1 + 1) = False := by simp; try omega
@[go_sem] theorem ltb_add23 (n : Nat) : (n < n + 1 + 1 + 1 + 1 + 1 + 1 + 1 + 1 + 1 + 1 + 1 + 1 + 1 + 1 + 1 + 1 + 1 + 1 + 1 + 1 + 1 + 1 + 1) = True := by simp; omega
@[go_sem] theorem neb_add23 (n : Nat) : (n + 1 + 1 + 1 + 1 + 1 + 1 + 1 + 1 + 1 + 1 + 1 + 1 + 1 + 1 + 1 + 1 + 1 + 1 + 1 + 1 + 1 + 1 + 1 = n) = False := by simp; try omega
@[go_sem] theorem neb_add23' (n : Nat) : (n = n + 1 + 1 + 1 + 1 + 1 + 1 + 1 + 1 + 1 + 1 + 1 + 1 + 1 + 1 + 1 + 1 + 1 + 1 + 1 + 1 + 1 + 1 + 1) = False := by simp; try omega
@[go_sem] theorem ltb_add24 (n : Nat) : (n < n + 1 + 1 + 1 + 1 + 1 + 1 + 1 + 1 + 1 + 1 + 1 + 1 + 1 + 1 + 1 + 1 + 1 + 1 + 1 + 1 + 1 + 1 + 1 + 1) = True := by simp; omega
@[go_sem] theorem neb_add24 (n : Nat) : (n + 1 + 1 + 1 + 1 + 1 + 1 + 1 + 1 + 1 + 1 + 1 + 1 + 1 + 1 + 1 + 1 + 1 + 1 + 1 + 1 + 1 + 1 + 1 + 1 = n) = False := by simp; try omega
@[go_sem] theorem neb_add24' (n : Nat) : (n = n + 1 + 1 + 1 + 1 + 1 + 1 + 1 + 1 + 1 + 1 + 1 + 1 + 1 + 1 + 1 + 1 + 1 + 1 + 1 + 1 + 1 + 1 + 1 + 1) = False := by simp; try omega
@[go_sem] theorem ltb_add25 (n : Nat) : (n < n + 1 + 1 + 1 + 1 + 1 + 1 + 1 + 1 + 1 + 1 + 1 + 1 + 1 + 1 + 1 + 1 + 1 + 1 + 1 + 1 + 1 + 1 + 1 + 1 + 1) = True := by simp; omega
@[go_sem] theorem neb_add25 (n : Nat) : (n + 1 + 1 + 1 + 1 + 1 + 1 + 1 + 1 + 1 + 1 + 1 + 1 + 1 + 1 + 1 + 1 + 1 + 1 + 1 + 1 + 1 + 1 + 1 + 1 + 1 = n) = False := by simp; try omega
@[go_sem] theorem neb_add25' (n : Nat) : (n = n + 1 + 1 + 1 + 1 + 1 + 1 + 1 + 1 + 1 + 1 + 1 + 1 + 1 + 1 + 1 + 1 + 1 + 1 + 1 + 1 + 1 + 1 + 1 + 1 + 1) = False := by simp; try omega

set_option maxRecDepth 100000 in
set_option maxHeartbeats 4000000 in
theorem bpbEqual_any (x0 x1 x2 x3 x4 x5 x6 x7 x8 x9 x10 x11 x12 x13 x14 x15 x16 y0 y1 y2 y3 y4 y5 y6 y7 y8 y9 y10 y11 y12 y13 y14 y15 y16 : Int) (s t s' t' : ByteArray) (w : World) (hx : Fits x1 x2 x3 x4 x5 x6 x7 x8 x9 x10 x11 x12 x13 x14 x15 x16) (hy : Fits y1 y2 y3 y4 y5 y6 y7 y8 y9 y10 y11 y12 y13 y14 y15 y16) :
    Calls Try.prog 7 #[.agg #[.int .i64 x0, .int .i64 x1, .int .i64 x2, .int .i64 x3, .int .i64 x4, .int .i64 x5, .int .i64 x6, .int .i64 x7, .int .i64 x8, .int .i64 x9, .int .i64 x10, .int .i64 x11, .int .i64 x12, .int .i64 x13, .int .i64 x14, .int .i64 x15, .int .i64 x16, .string s, .string t], .agg #[.int .i64 y0, .int .i64 y1, .int .i64 y2, .int .i64 y3, .int .i64 y4, .int .i64 y5, .int .i64 y6, .int .i64 y7, .int .i64 y8, .int .i64 y9, .int .i64 y10, .int .i64 y11, .int .i64 y12, .int .i64 y13, .int .i64 y14, .int .i64 y15, .int .i64 y16, .string s', .string t']] w fun e w' => e = .returned (.bool (eqB x1 x2 x3 x4 x5 x6 x7 x8 x9 x10 x11 x12 y1 y2 y3 y4 y5 y6 y7 y8 y9 y10 y11 y12)) ∧ Below w.heap.size w w' := by
  go_enter Try.func7, Try.ntmps7
  go_wp2
  go_region_held3 (fun w' => blkD w' w.heap.size = #[.int .i64 x0, .int .i64 x1, .int .i64 x2, .int .i64 x3, .int .i64 x4, .int .i64 x5, .int .i64 x6, .int .i64 x7, .int .i64 x8, .int .i64 x9, .int .i64 x10, .int .i64 x11, .int .i64 x12, .int .i64 x13, .int .i64 x14, .int .i64 x15, .int .i64 x16, .string s, .string t] ∧ blkD w' (w.heap.size + 1) = #[.int .i64 y0, .int .i64 y1, .int .i64 y2, .int .i64 y3, .int .i64 y4, .int .i64 y5, .int .i64 y6, .int .i64 y7, .int .i64 y8, .int .i64 y9, .int .i64 y10, .int .i64 y11, .int .i64 y12, .int .i64 y13, .int .i64 y14, .int .i64 y15, .int .i64 y16, .string s', .string t'])
    (refine ⟨?_, ?_⟩ <;> first | (with_reducible assumption) | (simp [go_sem]; done))
    (first | (go_at_call 10; refine (fits_fits _ _ _ _ _ _ _ _ _ _ _ _ _ _ _ _ _ _ _ _ ?_).mono ?_; (first | exact hx | exact hy); rintro e w1 ⟨rfl, rfl⟩) | (go_at_call 13; refine (three_fits _ _ _ _ _ _ _ _ _ _ _ _ _ _ _ _ _ _ _ _ ?_).mono ?_; (first | exact hx | exact hy); rintro e w1 ⟨rfl, rfl⟩) | (go_at_call 14; refine (equal_any (w.heap.size + 1 + 1 + 1 + 1 + 1 + 1 + 1 + 1 + 1 + 1 + 1 + 1 + 1) (w.heap.size + 1 + 1 + 1 + 1 + 1 + 1 + 1 + 1 + 1 + 1 + 1 + 1) (w.heap.size + 1 + 1 + 1 + 1 + 1 + 1 + 1 + 1 + 1 + 1 + 1 + 1 + 1 + 1 + 1 + 1 + 1) (w.heap.size + 1 + 1 + 1 + 1 + 1 + 1 + 1 + 1 + 1 + 1 + 1 + 1 + 1 + 1 + 1 + 1) x1 x2 x3 x4 x5 x6 x7 x8 x9 x10 x11 x12 y1 y2 y3 y4 y5 y6 y7 y8 y9 y10 y11 y12 _ ?_ ?_ ?_ ?_).mono ?_; (simp [go_sem]); (simp [go_sem]); (simp [go_sem]); (simp [go_sem]); rintro e w1 ⟨rfl, n, rfl⟩))
  go_wp2
  go_ret
  refine ⟨rfl, ?_⟩
  repeat (first | (with_reducible exact Below.refl _ _) | (with_reducible refine Below.drew ?_) | (with_reducible refine below_drewN ?_ _) | (with_reducible refine Below.alloc ?_ ?_ _))
  all_goals (simp <;> omega)
end Go.Proofs.Ythocgjaloflclaa
