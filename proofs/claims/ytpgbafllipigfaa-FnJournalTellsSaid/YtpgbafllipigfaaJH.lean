/- What the superblock's bytes hold. -/
import Derived.Test.YtpgbafllipigfaaJG
namespace Go.Proofs.Ytpgbafllipigfaa
open Go.RowKit
set_option linter.unusedVariables false

theorem put4_get (C : Array Value) (o i : Nat) (x : Int) (h : i < o ∨ o + 4 ≤ i) : (put4 C o x)[i]? = C[i]? := by
  unfold put4
  rw [Array.getElem?_setIfInBounds_ne (by omega), Array.getElem?_setIfInBounds_ne (by omega), Array.getElem?_setIfInBounds_ne (by omega), Array.getElem?_setIfInBounds_ne (by omega)]

set_option maxHeartbeats 4000000 in
theorem jbytes_holds (h0 h1 h2 f1 f2 f3 f4 f5 f6 f9 f11 f12 f13 f14 f15 f16 f17 f18 : Int) (uu C : Array Value) (huz : uu.size = 16) (hub : Bytes uu) (c0 : 0 ≤ h0) (d0 : h0 ≤ 4294967295) (c1 : 0 ≤ h1) (d1 : h1 ≤ 4294967295) (c2 : 0 ≤ h2) (d2 : h2 ≤ 4294967295) (c15 : 0 ≤ f15) (d15 : f15 < 256) (a1 : 0 ≤ f1) (b1 : f1 ≤ 4294967295) (a2 : 0 ≤ f2) (b2 : f2 ≤ 4294967295) (a3 : 0 ≤ f3) (b3 : f3 ≤ 4294967295) (a4 : 0 ≤ f4) (b4 : f4 ≤ 4294967295) (a5 : 0 ≤ f5) (b5 : f5 ≤ 4294967295) (a6 : 0 ≤ f6) (b6 : f6 ≤ 4294967295) (a9 : 0 ≤ f9) (b9 : f9 ≤ 4294967295) (a11 : 0 ≤ f11) (b11 : f11 ≤ 4294967295) (a12 : 0 ≤ f12) (b12 : f12 ≤ 4294967295) (a13 : 0 ≤ f13) (b13 : f13 ≤ 4294967295) (a14 : 0 ≤ f14) (b14 : f14 ≤ 4294967295) (a16 : 0 ≤ f16) (b16 : f16 ≤ 4294967295) (a17 : 0 ≤ f17) (b17 : f17 ≤ 4294967295) (a18 : 0 ≤ f18) (b18 : f18 ≤ 4294967295)
    (hC : C = jbytes h0 h1 h2 f1 f2 f3 f4 f5 f6 f9 f11 f12 f13 f14 f15 f16 f17 f18 uu) : Bytes C ∧ C.size = 1024 ∧ rd4 C 0 = h0 ∧ rd4 C 4 = h1 ∧ rd4 C 8 = h2 ∧ rd4 C 12 = f1 ∧ rd4 C 16 = f2 ∧ rd4 C 20 = f3 ∧ rd4 C 24 = f4 ∧ rd4 C 28 = f5 ∧ rd4 C 32 = f6 ∧ rd4 C 36 = 0 ∧ rd4 C 40 = 0 ∧ rd4 C 44 = f9 ∧ rd4 C 64 = f11 ∧ rd4 C 68 = f12 ∧ rd4 C 72 = f13 ∧ rd4 C 76 = f14 ∧ rd4 C 84 = f16 ∧ rd4 C 88 = f17 ∧ rd4 C 252 = f18 ∧ nb C 80 = f15 ∧ (∀ i, i < 16 → C[48 + i]? = uu[i]?) := by
  have z0 : zero1024.size = 1024 := size_zero1024
  have B0 : Bytes zero1024 := Bytes.zero
  obtain ⟨C1, e1⟩ : ∃ C, C = sp zero1024 0 (hdB h0 h1 h2) := ⟨_, rfl⟩
  have z1 : C1.size = 1024 := by rw [e1, size_sp _ _ _ (by rw [z0, size_hdB]; omega), z0]
  have B1 : Bytes C1 := by rw [e1]; exact B0.sp (Bytes.hd h0 h1 h2) (by rw [z0, size_hdB]; omega)
  obtain ⟨C2, e2⟩ : ∃ C, C = put4 C1 12 f1 := ⟨_, rfl⟩
  have z2 : C2.size = 1024 := by rw [e2, size_put4, z1]
  have B2 : Bytes C2 := by rw [e2]; exact B1.put (by omega) _
  obtain ⟨C3, e3⟩ : ∃ C, C = put4 C2 16 f2 := ⟨_, rfl⟩
  have z3 : C3.size = 1024 := by rw [e3, size_put4, z2]
  have B3 : Bytes C3 := by rw [e3]; exact B2.put (by omega) _
  obtain ⟨C4, e4⟩ : ∃ C, C = put4 C3 20 f3 := ⟨_, rfl⟩
  have z4 : C4.size = 1024 := by rw [e4, size_put4, z3]
  have B4 : Bytes C4 := by rw [e4]; exact B3.put (by omega) _
  obtain ⟨C5, e5⟩ : ∃ C, C = put4 C4 24 f4 := ⟨_, rfl⟩
  have z5 : C5.size = 1024 := by rw [e5, size_put4, z4]
  have B5 : Bytes C5 := by rw [e5]; exact B4.put (by omega) _
  obtain ⟨C6, e6⟩ : ∃ C, C = put4 C5 28 f5 := ⟨_, rfl⟩
  have z6 : C6.size = 1024 := by rw [e6, size_put4, z5]
  have B6 : Bytes C6 := by rw [e6]; exact B5.put (by omega) _
  obtain ⟨C7, e7⟩ : ∃ C, C = put4 C6 32 f6 := ⟨_, rfl⟩
  have z7 : C7.size = 1024 := by rw [e7, size_put4, z6]
  have B7 : Bytes C7 := by rw [e7]; exact B6.put (by omega) _
  obtain ⟨C8, e8⟩ : ∃ C, C = put4 C7 36 0 := ⟨_, rfl⟩
  have z8 : C8.size = 1024 := by rw [e8, size_put4, z7]
  have B8 : Bytes C8 := by rw [e8]; exact B7.put (by omega) _
  obtain ⟨C9, e9⟩ : ∃ C, C = put4 C8 40 0 := ⟨_, rfl⟩
  have z9 : C9.size = 1024 := by rw [e9, size_put4, z8]
  have B9 : Bytes C9 := by rw [e9]; exact B8.put (by omega) _
  obtain ⟨C10, e10⟩ : ∃ C, C = put4 C9 44 f9 := ⟨_, rfl⟩
  have z10 : C10.size = 1024 := by rw [e10, size_put4, z9]
  have B10 : Bytes C10 := by rw [e10]; exact B9.put (by omega) _
  obtain ⟨C11, e11⟩ : ∃ C, C = sp C10 48 uu := ⟨_, rfl⟩
  have z11 : C11.size = 1024 := by rw [e11, size_sp _ _ _ (by rw [z10, huz]; omega), z10]
  have B11 : Bytes C11 := by rw [e11]; exact B10.sp hub (by rw [z10, huz]; omega)
  obtain ⟨C12, e12⟩ : ∃ C, C = put4 C11 64 f11 := ⟨_, rfl⟩
  have z12 : C12.size = 1024 := by rw [e12, size_put4, z11]
  have B12 : Bytes C12 := by rw [e12]; exact B11.put (by omega) _
  obtain ⟨C13, e13⟩ : ∃ C, C = put4 C12 68 f12 := ⟨_, rfl⟩
  have z13 : C13.size = 1024 := by rw [e13, size_put4, z12]
  have B13 : Bytes C13 := by rw [e13]; exact B12.put (by omega) _
  obtain ⟨C14, e14⟩ : ∃ C, C = put4 C13 72 f13 := ⟨_, rfl⟩
  have z14 : C14.size = 1024 := by rw [e14, size_put4, z13]
  have B14 : Bytes C14 := by rw [e14]; exact B13.put (by omega) _
  obtain ⟨C15, e15⟩ : ∃ C, C = put4 C14 76 f14 := ⟨_, rfl⟩
  have z15 : C15.size = 1024 := by rw [e15, size_put4, z14]
  have B15 : Bytes C15 := by rw [e15]; exact B14.put (by omega) _
  obtain ⟨C16, e16⟩ : ∃ C, C = C15.setIfInBounds 80 (.int .u8 f15) := ⟨_, rfl⟩
  have z16 : C16.size = 1024 := by rw [e16]; simpa using z15
  have B16 : Bytes C16 := by rw [e16]; exact B15.set (by omega) c15 d15
  obtain ⟨C17, e17⟩ : ∃ C, C = put4 C16 84 f16 := ⟨_, rfl⟩
  have z17 : C17.size = 1024 := by rw [e17, size_put4, z16]
  have B17 : Bytes C17 := by rw [e17]; exact B16.put (by omega) _
  obtain ⟨C18, e18⟩ : ∃ C, C = put4 C17 88 f17 := ⟨_, rfl⟩
  have z18 : C18.size = 1024 := by rw [e18, size_put4, z17]
  have B18 : Bytes C18 := by rw [e18]; exact B17.put (by omega) _
  obtain ⟨C19, e19⟩ : ∃ C, C = put4 C18 252 f18 := ⟨_, rfl⟩
  have z19 : C19.size = 1024 := by rw [e19, size_put4, z18]
  have B19 : Bytes C19 := by rw [e19]; exact B18.put (by omega) _
  have eC : C = C19 := by rw [hC, jbytes, e19, e18, e17, e16, e15, e14, e13, e12, e11, e10, e9, e8, e7, e6, e5, e4, e3, e2, e1]
  rw [eC]
  exact ⟨B19,
    z19,
    by rw [e19, rd4_other _ _ _ _ (by omega) (by omega)]; rw [e18, rd4_other _ _ _ _ (by omega) (by omega)]; rw [e17, rd4_other _ _ _ _ (by omega) (by omega)]; rw [e16, rd4_set _ _ _ _ _ (by omega) (by omega)]; rw [e15, rd4_other _ _ _ _ (by omega) (by omega)]; rw [e14, rd4_other _ _ _ _ (by omega) (by omega)]; rw [e13, rd4_other _ _ _ _ (by omega) (by omega)]; rw [e12, rd4_other _ _ _ _ (by omega) (by omega)]; rw [e11, rd4_sp_other _ _ _ _ (by rw [z10, huz]; omega) (by rw [huz]; omega)]; rw [e10, rd4_other _ _ _ _ (by omega) (by omega)]; rw [e9, rd4_other _ _ _ _ (by omega) (by omega)]; rw [e8, rd4_other _ _ _ _ (by omega) (by omega)]; rw [e7, rd4_other _ _ _ _ (by omega) (by omega)]; rw [e6, rd4_other _ _ _ _ (by omega) (by omega)]; rw [e5, rd4_other _ _ _ _ (by omega) (by omega)]; rw [e4, rd4_other _ _ _ _ (by omega) (by omega)]; rw [e3, rd4_other _ _ _ _ (by omega) (by omega)]; rw [e2, rd4_other _ _ _ _ (by omega) (by omega)]; rw [e1, rd4_sp_in _ _ _ _ (by rw [z0, size_hdB]; omega) (by omega) (by rw [size_hdB]; omega)]; exact rd4_hdB0 h0 h1 h2 (by omega) (by omega),
    by rw [e19, rd4_other _ _ _ _ (by omega) (by omega)]; rw [e18, rd4_other _ _ _ _ (by omega) (by omega)]; rw [e17, rd4_other _ _ _ _ (by omega) (by omega)]; rw [e16, rd4_set _ _ _ _ _ (by omega) (by omega)]; rw [e15, rd4_other _ _ _ _ (by omega) (by omega)]; rw [e14, rd4_other _ _ _ _ (by omega) (by omega)]; rw [e13, rd4_other _ _ _ _ (by omega) (by omega)]; rw [e12, rd4_other _ _ _ _ (by omega) (by omega)]; rw [e11, rd4_sp_other _ _ _ _ (by rw [z10, huz]; omega) (by rw [huz]; omega)]; rw [e10, rd4_other _ _ _ _ (by omega) (by omega)]; rw [e9, rd4_other _ _ _ _ (by omega) (by omega)]; rw [e8, rd4_other _ _ _ _ (by omega) (by omega)]; rw [e7, rd4_other _ _ _ _ (by omega) (by omega)]; rw [e6, rd4_other _ _ _ _ (by omega) (by omega)]; rw [e5, rd4_other _ _ _ _ (by omega) (by omega)]; rw [e4, rd4_other _ _ _ _ (by omega) (by omega)]; rw [e3, rd4_other _ _ _ _ (by omega) (by omega)]; rw [e2, rd4_other _ _ _ _ (by omega) (by omega)]; rw [e1, rd4_sp_in _ _ _ _ (by rw [z0, size_hdB]; omega) (by omega) (by rw [size_hdB]; omega)]; exact rd4_hdB4 h0 h1 h2 (by omega) (by omega),
    by rw [e19, rd4_other _ _ _ _ (by omega) (by omega)]; rw [e18, rd4_other _ _ _ _ (by omega) (by omega)]; rw [e17, rd4_other _ _ _ _ (by omega) (by omega)]; rw [e16, rd4_set _ _ _ _ _ (by omega) (by omega)]; rw [e15, rd4_other _ _ _ _ (by omega) (by omega)]; rw [e14, rd4_other _ _ _ _ (by omega) (by omega)]; rw [e13, rd4_other _ _ _ _ (by omega) (by omega)]; rw [e12, rd4_other _ _ _ _ (by omega) (by omega)]; rw [e11, rd4_sp_other _ _ _ _ (by rw [z10, huz]; omega) (by rw [huz]; omega)]; rw [e10, rd4_other _ _ _ _ (by omega) (by omega)]; rw [e9, rd4_other _ _ _ _ (by omega) (by omega)]; rw [e8, rd4_other _ _ _ _ (by omega) (by omega)]; rw [e7, rd4_other _ _ _ _ (by omega) (by omega)]; rw [e6, rd4_other _ _ _ _ (by omega) (by omega)]; rw [e5, rd4_other _ _ _ _ (by omega) (by omega)]; rw [e4, rd4_other _ _ _ _ (by omega) (by omega)]; rw [e3, rd4_other _ _ _ _ (by omega) (by omega)]; rw [e2, rd4_other _ _ _ _ (by omega) (by omega)]; rw [e1, rd4_sp_in _ _ _ _ (by rw [z0, size_hdB]; omega) (by omega) (by rw [size_hdB]; omega)]; exact rd4_hdB8 h0 h1 h2 (by omega) (by omega),
    by rw [e19, rd4_other _ _ _ _ (by omega) (by omega)]; rw [e18, rd4_other _ _ _ _ (by omega) (by omega)]; rw [e17, rd4_other _ _ _ _ (by omega) (by omega)]; rw [e16, rd4_set _ _ _ _ _ (by omega) (by omega)]; rw [e15, rd4_other _ _ _ _ (by omega) (by omega)]; rw [e14, rd4_other _ _ _ _ (by omega) (by omega)]; rw [e13, rd4_other _ _ _ _ (by omega) (by omega)]; rw [e12, rd4_other _ _ _ _ (by omega) (by omega)]; rw [e11, rd4_sp_other _ _ _ _ (by rw [z10, huz]; omega) (by rw [huz]; omega)]; rw [e10, rd4_other _ _ _ _ (by omega) (by omega)]; rw [e9, rd4_other _ _ _ _ (by omega) (by omega)]; rw [e8, rd4_other _ _ _ _ (by omega) (by omega)]; rw [e7, rd4_other _ _ _ _ (by omega) (by omega)]; rw [e6, rd4_other _ _ _ _ (by omega) (by omega)]; rw [e5, rd4_other _ _ _ _ (by omega) (by omega)]; rw [e4, rd4_other _ _ _ _ (by omega) (by omega)]; rw [e3, rd4_other _ _ _ _ (by omega) (by omega)]; rw [e2, rd4_same _ _ _ (by omega) (by omega) (by omega)],
    by rw [e19, rd4_other _ _ _ _ (by omega) (by omega)]; rw [e18, rd4_other _ _ _ _ (by omega) (by omega)]; rw [e17, rd4_other _ _ _ _ (by omega) (by omega)]; rw [e16, rd4_set _ _ _ _ _ (by omega) (by omega)]; rw [e15, rd4_other _ _ _ _ (by omega) (by omega)]; rw [e14, rd4_other _ _ _ _ (by omega) (by omega)]; rw [e13, rd4_other _ _ _ _ (by omega) (by omega)]; rw [e12, rd4_other _ _ _ _ (by omega) (by omega)]; rw [e11, rd4_sp_other _ _ _ _ (by rw [z10, huz]; omega) (by rw [huz]; omega)]; rw [e10, rd4_other _ _ _ _ (by omega) (by omega)]; rw [e9, rd4_other _ _ _ _ (by omega) (by omega)]; rw [e8, rd4_other _ _ _ _ (by omega) (by omega)]; rw [e7, rd4_other _ _ _ _ (by omega) (by omega)]; rw [e6, rd4_other _ _ _ _ (by omega) (by omega)]; rw [e5, rd4_other _ _ _ _ (by omega) (by omega)]; rw [e4, rd4_other _ _ _ _ (by omega) (by omega)]; rw [e3, rd4_same _ _ _ (by omega) (by omega) (by omega)],
    by rw [e19, rd4_other _ _ _ _ (by omega) (by omega)]; rw [e18, rd4_other _ _ _ _ (by omega) (by omega)]; rw [e17, rd4_other _ _ _ _ (by omega) (by omega)]; rw [e16, rd4_set _ _ _ _ _ (by omega) (by omega)]; rw [e15, rd4_other _ _ _ _ (by omega) (by omega)]; rw [e14, rd4_other _ _ _ _ (by omega) (by omega)]; rw [e13, rd4_other _ _ _ _ (by omega) (by omega)]; rw [e12, rd4_other _ _ _ _ (by omega) (by omega)]; rw [e11, rd4_sp_other _ _ _ _ (by rw [z10, huz]; omega) (by rw [huz]; omega)]; rw [e10, rd4_other _ _ _ _ (by omega) (by omega)]; rw [e9, rd4_other _ _ _ _ (by omega) (by omega)]; rw [e8, rd4_other _ _ _ _ (by omega) (by omega)]; rw [e7, rd4_other _ _ _ _ (by omega) (by omega)]; rw [e6, rd4_other _ _ _ _ (by omega) (by omega)]; rw [e5, rd4_other _ _ _ _ (by omega) (by omega)]; rw [e4, rd4_same _ _ _ (by omega) (by omega) (by omega)],
    by rw [e19, rd4_other _ _ _ _ (by omega) (by omega)]; rw [e18, rd4_other _ _ _ _ (by omega) (by omega)]; rw [e17, rd4_other _ _ _ _ (by omega) (by omega)]; rw [e16, rd4_set _ _ _ _ _ (by omega) (by omega)]; rw [e15, rd4_other _ _ _ _ (by omega) (by omega)]; rw [e14, rd4_other _ _ _ _ (by omega) (by omega)]; rw [e13, rd4_other _ _ _ _ (by omega) (by omega)]; rw [e12, rd4_other _ _ _ _ (by omega) (by omega)]; rw [e11, rd4_sp_other _ _ _ _ (by rw [z10, huz]; omega) (by rw [huz]; omega)]; rw [e10, rd4_other _ _ _ _ (by omega) (by omega)]; rw [e9, rd4_other _ _ _ _ (by omega) (by omega)]; rw [e8, rd4_other _ _ _ _ (by omega) (by omega)]; rw [e7, rd4_other _ _ _ _ (by omega) (by omega)]; rw [e6, rd4_other _ _ _ _ (by omega) (by omega)]; rw [e5, rd4_same _ _ _ (by omega) (by omega) (by omega)],
    by rw [e19, rd4_other _ _ _ _ (by omega) (by omega)]; rw [e18, rd4_other _ _ _ _ (by omega) (by omega)]; rw [e17, rd4_other _ _ _ _ (by omega) (by omega)]; rw [e16, rd4_set _ _ _ _ _ (by omega) (by omega)]; rw [e15, rd4_other _ _ _ _ (by omega) (by omega)]; rw [e14, rd4_other _ _ _ _ (by omega) (by omega)]; rw [e13, rd4_other _ _ _ _ (by omega) (by omega)]; rw [e12, rd4_other _ _ _ _ (by omega) (by omega)]; rw [e11, rd4_sp_other _ _ _ _ (by rw [z10, huz]; omega) (by rw [huz]; omega)]; rw [e10, rd4_other _ _ _ _ (by omega) (by omega)]; rw [e9, rd4_other _ _ _ _ (by omega) (by omega)]; rw [e8, rd4_other _ _ _ _ (by omega) (by omega)]; rw [e7, rd4_other _ _ _ _ (by omega) (by omega)]; rw [e6, rd4_same _ _ _ (by omega) (by omega) (by omega)],
    by rw [e19, rd4_other _ _ _ _ (by omega) (by omega)]; rw [e18, rd4_other _ _ _ _ (by omega) (by omega)]; rw [e17, rd4_other _ _ _ _ (by omega) (by omega)]; rw [e16, rd4_set _ _ _ _ _ (by omega) (by omega)]; rw [e15, rd4_other _ _ _ _ (by omega) (by omega)]; rw [e14, rd4_other _ _ _ _ (by omega) (by omega)]; rw [e13, rd4_other _ _ _ _ (by omega) (by omega)]; rw [e12, rd4_other _ _ _ _ (by omega) (by omega)]; rw [e11, rd4_sp_other _ _ _ _ (by rw [z10, huz]; omega) (by rw [huz]; omega)]; rw [e10, rd4_other _ _ _ _ (by omega) (by omega)]; rw [e9, rd4_other _ _ _ _ (by omega) (by omega)]; rw [e8, rd4_other _ _ _ _ (by omega) (by omega)]; rw [e7, rd4_same _ _ _ (by omega) (by omega) (by omega)],
    by rw [e19, rd4_other _ _ _ _ (by omega) (by omega)]; rw [e18, rd4_other _ _ _ _ (by omega) (by omega)]; rw [e17, rd4_other _ _ _ _ (by omega) (by omega)]; rw [e16, rd4_set _ _ _ _ _ (by omega) (by omega)]; rw [e15, rd4_other _ _ _ _ (by omega) (by omega)]; rw [e14, rd4_other _ _ _ _ (by omega) (by omega)]; rw [e13, rd4_other _ _ _ _ (by omega) (by omega)]; rw [e12, rd4_other _ _ _ _ (by omega) (by omega)]; rw [e11, rd4_sp_other _ _ _ _ (by rw [z10, huz]; omega) (by rw [huz]; omega)]; rw [e10, rd4_other _ _ _ _ (by omega) (by omega)]; rw [e9, rd4_other _ _ _ _ (by omega) (by omega)]; rw [e8, rd4_same _ _ _ (by omega) (by omega) (by omega)],
    by rw [e19, rd4_other _ _ _ _ (by omega) (by omega)]; rw [e18, rd4_other _ _ _ _ (by omega) (by omega)]; rw [e17, rd4_other _ _ _ _ (by omega) (by omega)]; rw [e16, rd4_set _ _ _ _ _ (by omega) (by omega)]; rw [e15, rd4_other _ _ _ _ (by omega) (by omega)]; rw [e14, rd4_other _ _ _ _ (by omega) (by omega)]; rw [e13, rd4_other _ _ _ _ (by omega) (by omega)]; rw [e12, rd4_other _ _ _ _ (by omega) (by omega)]; rw [e11, rd4_sp_other _ _ _ _ (by rw [z10, huz]; omega) (by rw [huz]; omega)]; rw [e10, rd4_other _ _ _ _ (by omega) (by omega)]; rw [e9, rd4_same _ _ _ (by omega) (by omega) (by omega)],
    by rw [e19, rd4_other _ _ _ _ (by omega) (by omega)]; rw [e18, rd4_other _ _ _ _ (by omega) (by omega)]; rw [e17, rd4_other _ _ _ _ (by omega) (by omega)]; rw [e16, rd4_set _ _ _ _ _ (by omega) (by omega)]; rw [e15, rd4_other _ _ _ _ (by omega) (by omega)]; rw [e14, rd4_other _ _ _ _ (by omega) (by omega)]; rw [e13, rd4_other _ _ _ _ (by omega) (by omega)]; rw [e12, rd4_other _ _ _ _ (by omega) (by omega)]; rw [e11, rd4_sp_other _ _ _ _ (by rw [z10, huz]; omega) (by rw [huz]; omega)]; rw [e10, rd4_same _ _ _ (by omega) (by omega) (by omega)],
    by rw [e19, rd4_other _ _ _ _ (by omega) (by omega)]; rw [e18, rd4_other _ _ _ _ (by omega) (by omega)]; rw [e17, rd4_other _ _ _ _ (by omega) (by omega)]; rw [e16, rd4_set _ _ _ _ _ (by omega) (by omega)]; rw [e15, rd4_other _ _ _ _ (by omega) (by omega)]; rw [e14, rd4_other _ _ _ _ (by omega) (by omega)]; rw [e13, rd4_other _ _ _ _ (by omega) (by omega)]; rw [e12, rd4_same _ _ _ (by omega) (by omega) (by omega)],
    by rw [e19, rd4_other _ _ _ _ (by omega) (by omega)]; rw [e18, rd4_other _ _ _ _ (by omega) (by omega)]; rw [e17, rd4_other _ _ _ _ (by omega) (by omega)]; rw [e16, rd4_set _ _ _ _ _ (by omega) (by omega)]; rw [e15, rd4_other _ _ _ _ (by omega) (by omega)]; rw [e14, rd4_other _ _ _ _ (by omega) (by omega)]; rw [e13, rd4_same _ _ _ (by omega) (by omega) (by omega)],
    by rw [e19, rd4_other _ _ _ _ (by omega) (by omega)]; rw [e18, rd4_other _ _ _ _ (by omega) (by omega)]; rw [e17, rd4_other _ _ _ _ (by omega) (by omega)]; rw [e16, rd4_set _ _ _ _ _ (by omega) (by omega)]; rw [e15, rd4_other _ _ _ _ (by omega) (by omega)]; rw [e14, rd4_same _ _ _ (by omega) (by omega) (by omega)],
    by rw [e19, rd4_other _ _ _ _ (by omega) (by omega)]; rw [e18, rd4_other _ _ _ _ (by omega) (by omega)]; rw [e17, rd4_other _ _ _ _ (by omega) (by omega)]; rw [e16, rd4_set _ _ _ _ _ (by omega) (by omega)]; rw [e15, rd4_same _ _ _ (by omega) (by omega) (by omega)],
    by rw [e19, rd4_other _ _ _ _ (by omega) (by omega)]; rw [e18, rd4_other _ _ _ _ (by omega) (by omega)]; rw [e17, rd4_same _ _ _ (by omega) (by omega) (by omega)],
    by rw [e19, rd4_other _ _ _ _ (by omega) (by omega)]; rw [e18, rd4_same _ _ _ (by omega) (by omega) (by omega)],
    by rw [e19, rd4_same _ _ _ (by omega) (by omega) (by omega)],
    by rw [e19, nb_put4 _ _ _ _ (by omega), if_neg (by omega), if_neg (by omega), if_neg (by omega), if_neg (by omega)]; rw [e18, nb_put4 _ _ _ _ (by omega), if_neg (by omega), if_neg (by omega), if_neg (by omega), if_neg (by omega)]; rw [e17, nb_put4 _ _ _ _ (by omega), if_neg (by omega), if_neg (by omega), if_neg (by omega), if_neg (by omega)]; rw [e16, nb_set _ _ _ _ _ (by omega), if_pos rfl],
    by intro i hi; rw [e19, put4_get _ _ _ _ (by omega)]; rw [e18, put4_get _ _ _ _ (by omega)]; rw [e17, put4_get _ _ _ _ (by omega)]; rw [e16, Array.getElem?_setIfInBounds_ne (by omega)]; rw [e15, put4_get _ _ _ _ (by omega)]; rw [e14, put4_get _ _ _ _ (by omega)]; rw [e13, put4_get _ _ _ _ (by omega)]; rw [e12, put4_get _ _ _ _ (by omega)]; rw [e11, sp_get _ _ _ _ (by rw [z10, huz]; omega), if_pos (by omega), Nat.add_sub_cancel_left]⟩
end Go.Proofs.Ytpgbafllipigfaa
