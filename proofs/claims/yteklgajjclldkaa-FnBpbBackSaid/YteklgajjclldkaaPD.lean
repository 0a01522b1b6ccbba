/- Walk of Dos40EBPBFromBytes. -/
import Derived.Test.YteklgajjclldkaaPC
namespace Go.Proofs.Yteklgajjclldkaa
open Go.RowKit
attribute [local go_sem ↓] Go.wp_at_zero Go.wp_at_succ
set_option linter.unusedVariables false

set_option maxRecDepth 100000 in
set_option maxHeartbeats 4000000 in
theorem fb4_any (g c : Nat) (ys : List Int) (w : World) (hS : Bys w g ys) (hB : Byt ys) (hl : ys.length = 51) (hc : 51 ≤ c) (hg : g < w.heap.size) (h512 : p16 ys 0 = 512) (h41 : p8 ys 27 = 41) :
    Calls Try.prog 20 #[.slice (some ⟨g, 0, none⟩) 51 c] w fun e w' => ∃ g4 g3 g2, e = .returned (.tuple #[.pointer (some ⟨g4, 0, none⟩), .int .i64 51, .nilIface]) ∧ blkD w' g4 = #[.pointer (some ⟨g3, 0, none⟩), .int .u8 (p8 ys 25), .int .u8 (p8 ys 26), .int .u8 41, .int .u32 (p32 ys 28), .string (strOfNums (trimL (subL ys 32 11))), .string (strOfNums (trimL (subL ys 43 8)))] ∧ blkD w' g3 = #[.pointer (some ⟨g2, 0, none⟩), .int .u16 (p16 ys 13), .int .u16 (p16 ys 15), .int .u32 (p32 ys 17), .int .u32 (p32 ys 21)] ∧ blkD w' g2 = #[.int .u16 512, .int .u8 (p8 ys 2), .int .u16 (p16 ys 3), .int .u8 (p8 ys 5), .int .u16 (p16 ys 6), .int .u16 (p16 ys 8), .int .u8 (p8 ys 10), .int .u16 (p16 ys 11)] ∧ w.heap.size ≤ g4 ∧ w.heap.size ≤ g3 ∧ w.heap.size ≤ g2 ∧ Below w.heap.size w w' := by
  have HS := Lib.hid hS
  have HB := Lib.hid hB
  clear hS hB
  have H41 := Lib.hid h41
  clear h41
  have l25 : (25 : Int) ≤ (c : Int) := by omega
  have n25 : ¬ c = 25 := by omega
  have l26 : (26 : Int) ≤ (c : Int) := by omega
  have n26 : ¬ c = 26 := by omega
  have l27 : (27 : Int) ≤ (c : Int) := by omega
  have n27 : ¬ c = 27 := by omega
  have l28 : (28 : Int) ≤ (c : Int) := by omega
  have n28 : ¬ c = 28 := by omega
  have l32 : (32 : Int) ≤ (c : Int) := by omega
  have n32 : ¬ c = 32 := by omega
  have l43 : (43 : Int) ≤ (c : Int) := by omega
  have n43 : ¬ c = 43 := by omega
  have l51 : (51 : Int) ≤ (c : Int) := by omega
  go_enter Try.func20, Try.ntmps20
  go_wp2_with fail
  refine (fb3_any g c ys w HS.out HB.out (by omega) (by omega) hg h512).mono ?_
  rintro e W1 ⟨g3, g2, rfl, hc3, hc2, hw3, hw2, hb1⟩
  have HC2 := Lib.hid hc2
  have HC3 := Lib.hid hc3
  have hg2 : g2 < W1.heap.size := lt_blkD (i := 0) (by rw [hc2]; simp)
  have hg3 : g3 < W1.heap.size := lt_blkD (i := 0) (by rw [hc3]; simp)
  have HS1 := Lib.hid (HS.out.below hb1 hg)
  have hg1 : g < W1.heap.size := by have := hb1.size; omega
  have HB1 := Lib.hid hb1
  clear hc2 hc3 hb1
  go_wp2
  refine wp_region_met (by kernel_rfl) (fun w' => Below W1.heap.size W1 w') (fun w1 w2 => Below w1.heap.size w1 w2) (fun i v w' => FactP W1.heap.size ([.inl (.pointer (some ⟨g3, 0, none⟩)), .inl (.slice (some ⟨g, 0, none⟩) 51 c), .inl (.pointer (some ⟨g, 25, none⟩)), .inl (.int .u8 (p8 ys 25)), .inl (.slice (some ⟨g, 0, none⟩) 51 c), .inl (.pointer (some ⟨g, 26, none⟩)), .inl (.int .u8 (p8 ys 26)), .inl (.slice (some ⟨g, 0, none⟩) 51 c), .inl (.pointer (some ⟨g, 27, none⟩)), .inl (.int .u8 (p8 ys 27)), .inl (.agg #[]), .inl (.slice (some ⟨g, 0, none⟩) 51 c), .inl (.slice (some ⟨g, 28, none⟩) 4 (c - 28)), .inl (.int .u32 (p32 ys 28)), .inl (.agg #[.pointer (some ⟨g3, 0, none⟩), .int .u8 (p8 ys 25), .int .u8 (p8 ys 26), .int .u8 (p8 ys 27), .int .u32 (p32 ys 28), .string ⟨#[]⟩, .string ⟨#[]⟩]), .inr (#[.pointer (some ⟨g3, 0, none⟩), .int .u8 (p8 ys 25), .int .u8 (p8 ys 26), .int .u8 (p8 ys 27), .int .u32 (p32 ys 28), .string ⟨#[]⟩, .string ⟨#[]⟩]), .inr (#[.pointer (some ⟨g3, 0, none⟩), .int .u8 (p8 ys 25), .int .u8 (p8 ys 26), .int .u8 (p8 ys 27), .int .u32 (p32 ys 28), .string ⟨#[]⟩, .string ⟨#[]⟩])][i]?.getD (.inl undef)) v w') (by kernel_rfl) ?_ (by intro i v w1 w2 _ hE hF; exact FactP.keep hE hF) ?_ ⟨⟨rfl, ?_⟩, ⟨rfl, ?_⟩, ⟨rfl, ?_⟩, ⟨rfl, ?_⟩, ⟨rfl, ?_⟩, ⟨rfl, ?_⟩, ⟨rfl, ?_⟩, ⟨rfl, ?_⟩, ⟨rfl, ?_⟩, ⟨rfl, ?_⟩, ⟨rfl, ?_⟩, ⟨rfl, ?_⟩, ⟨rfl, ?_⟩, ⟨rfl, ?_⟩, ⟨rfl, ?_⟩, ⟨rfl, ?_⟩, ⟨rfl, ?_⟩, trivial⟩ ?_
  · intro w1 w2 h1 hE; exact h1.trans (hE.mono h1.size)
  · exact (Below.refl _ _).drew
  · intro a w' K hB hd hs hK; have d5 : a.tmps.getD 5 undef = .pointer (some ⟨g3, 0, none⟩) := hs 5 rfl; clear hd hs; go_simp; exact hK _ _ rfl (Below.refl _ _)
  · intro a w' K hB hd hs hK; have d0 : a.tmps.getD 0 undef = .slice (some ⟨g, 0, none⟩) 51 c := hs 0 rfl; clear hd hs; go_simp; exact hK _ _ rfl (Below.refl _ _)
  · intro a w' K hB hd hs hK; have d22 : a.tmps.getD 22 undef = .slice (some ⟨g, 0, none⟩) 51 c := hd 1 rfl; clear hd hs; go_simp; exact hK _ _ rfl (Below.refl _ _)
  · intro a w' K hB hd hs hK; have d23 : a.tmps.getD 23 undef = .pointer (some ⟨g, 25, none⟩) := hd 2 rfl; clear hd hs; have hcell : w'.cell? ⟨g, 25, none⟩ = some (.int .u8 (p8 ys 25)) := (HS1.out.below hB hg1) 25 (by omega); go_simp; exact hK _ _ rfl (Below.refl _ _)
  · intro a w' K hB hd hs hK; have d0 : a.tmps.getD 0 undef = .slice (some ⟨g, 0, none⟩) 51 c := hs 0 rfl; clear hd hs; go_simp; exact hK _ _ rfl (Below.refl _ _)
  · intro a w' K hB hd hs hK; have d25 : a.tmps.getD 25 undef = .slice (some ⟨g, 0, none⟩) 51 c := hd 4 rfl; clear hd hs; go_simp; exact hK _ _ rfl (Below.refl _ _)
  · intro a w' K hB hd hs hK; have d26 : a.tmps.getD 26 undef = .pointer (some ⟨g, 26, none⟩) := hd 5 rfl; clear hd hs; have hcell : w'.cell? ⟨g, 26, none⟩ = some (.int .u8 (p8 ys 26)) := (HS1.out.below hB hg1) 26 (by omega); go_simp; exact hK _ _ rfl (Below.refl _ _)
  · intro a w' K hB hd hs hK; have d0 : a.tmps.getD 0 undef = .slice (some ⟨g, 0, none⟩) 51 c := hs 0 rfl; clear hd hs; go_simp; exact hK _ _ rfl (Below.refl _ _)
  · intro a w' K hB hd hs hK; have d28 : a.tmps.getD 28 undef = .slice (some ⟨g, 0, none⟩) 51 c := hd 7 rfl; clear hd hs; go_simp; exact hK _ _ rfl (Below.refl _ _)
  · intro a w' K hB hd hs hK; have d29 : a.tmps.getD 29 undef = .pointer (some ⟨g, 27, none⟩) := hd 8 rfl; clear hd hs; have hcell : w'.cell? ⟨g, 27, none⟩ = some (.int .u8 (p8 ys 27)) := (HS1.out.below hB hg1) 27 (by omega); go_simp; exact hK _ _ rfl (Below.refl _ _)
  · intro a w' K hB hd hs hK; skip; clear hd hs; go_simp; exact hK _ _ rfl (Below.refl _ _)
  · intro a w' K hB hd hs hK; have d0 : a.tmps.getD 0 undef = .slice (some ⟨g, 0, none⟩) 51 c := hs 0 rfl; clear hd hs; go_simp; exact hK _ _ rfl (Below.refl _ _)
  · intro a w' K hB hd hs hK; have d32 : a.tmps.getD 32 undef = .slice (some ⟨g, 0, none⟩) 51 c := hd 11 rfl; clear hd hs; go_simp; exact hK _ _ rfl (Below.refl _ _)
  · intro a w' K hB hd hs hK; have d31 : a.tmps.getD 31 undef = .agg #[] := hd 10 rfl; have d33 : a.tmps.getD 33 undef = .slice (some ⟨g, 28, none⟩) 4 (c - 28) := hd 12 rfl; clear hd hs; go_simp; refine (r32_S g 28 _ ys _ (HS1.out.below hB hg1) HB.out (by omega) (by have := hB.size; omega)).mono ?_; rintro e w2 ⟨rfl, rfl⟩; exact hK _ _ rfl ((Below.refl _ _).alloc (Nat.le_refl _) _).drew
  · intro a w' K hB hd hs hK; have d21 : a.tmps.getD 21 undef = .pointer (some ⟨g3, 0, none⟩) := hd 0 rfl; have d24 : a.tmps.getD 24 undef = .int .u8 (p8 ys 25) := hd 3 rfl; have d27 : a.tmps.getD 27 undef = .int .u8 (p8 ys 26) := hd 6 rfl; have d30 : a.tmps.getD 30 undef = .int .u8 (p8 ys 27) := hd 9 rfl; have d34 : a.tmps.getD 34 undef = .int .u32 (p32 ys 28) := hd 13 rfl; clear hd hs; have e21 := d21; rw [Array.getD_eq_getD_getElem?] at e21; have e24 := d24; rw [Array.getD_eq_getD_getElem?] at e24; have e27 := d27; rw [Array.getD_eq_getD_getElem?] at e27; have e30 := d30; rw [Array.getD_eq_getD_getElem?] at e30; have e34 := d34; rw [Array.getD_eq_getD_getElem?] at e34; go_simp; exact hK _ _ rfl (Below.refl _ _)
  · intro a w' K hB hd hs hK; have d35 : a.tmps.getD 35 undef = .agg #[.pointer (some ⟨g3, 0, none⟩), .int .u8 (p8 ys 25), .int .u8 (p8 ys 26), .int .u8 (p8 ys 27), .int .u32 (p32 ys 28), .string ⟨#[]⟩, .string ⟨#[]⟩] := hd 14 rfl; clear hd hs; go_simp; exact hK (.pointer (some ⟨w'.heap.size, 0, none⟩)) (w'.alloc (.cells #[.pointer (some ⟨g3, 0, none⟩), .int .u8 (p8 ys 25), .int .u8 (p8 ys 26), .int .u8 (p8 ys 27), .int .u32 (p32 ys 28), .string ⟨#[]⟩, .string ⟨#[]⟩] 57)) ⟨w'.heap.size, rfl, by simp [go_sem], by simp, hB.size⟩ ((Below.refl _ _).alloc (Nat.le_refl _) _)
  · intro a w' K hB hd hs hK; obtain ⟨g36, d36, c36, z36⟩ : ∃ g, a.tmps.getD 36 undef = .pointer (some ⟨g, 0, none⟩) ∧ blkD w' g = #[.pointer (some ⟨g3, 0, none⟩), .int .u8 (p8 ys 25), .int .u8 (p8 ys 26), .int .u8 (p8 ys 27), .int .u32 (p32 ys 28), .string ⟨#[]⟩, .string ⟨#[]⟩] ∧ 0 < (#[.pointer (some ⟨g3, 0, none⟩), .int .u8 (p8 ys 25), .int .u8 (p8 ys 26), .int .u8 (p8 ys 27), .int .u32 (p32 ys 28), .string ⟨#[]⟩, .string ⟨#[]⟩]).size ∧ W1.heap.size ≤ g := hd 15 rfl; clear hd hs; go_simp; exact hK _ _ ⟨g36, rfl, c36, z36⟩ (Below.refl _ _)
  · intro a W8 hB8 hsz hdf hf hs
    obtain ⟨p7, hp7, hc7, _, hq7⟩ : ∃ g, a.tmps.getD 7 undef = .pointer (some ⟨g, 0, none⟩) ∧ blkD W8 g = #[.pointer (some ⟨g3, 0, none⟩), .int .u8 (p8 ys 25), .int .u8 (p8 ys 26), .int .u8 (p8 ys 27), .int .u32 (p32 ys 28), .string ⟨#[]⟩, .string ⟨#[]⟩] ∧ 0 < (#[.pointer (some ⟨g3, 0, none⟩), .int .u8 (p8 ys 25), .int .u8 (p8 ys 26), .int .u8 (p8 ys 27), .int .u32 (p32 ys 28), .string ⟨#[]⟩, .string ⟨#[]⟩]).size ∧ W1.heap.size ≤ g := hf 16 rfl
    have hact : a = ⟨#[.slice (some ⟨g, 0, none⟩) 51 c, sl a 1, .pointer none, .int .i64 0, .nilIface, .pointer (some ⟨g3, 0, none⟩), .nilIface, .pointer (some ⟨p7, 0, none⟩), sl a 8, sl a 9, sl a 10, sl a 11, sl a 12, sl a 13, sl a 14, sl a 15, sl a 16, sl a 17, sl a 18, sl a 19, sl a 20, sl a 21, sl a 22, sl a 23, sl a 24, sl a 25, sl a 26, sl a 27, sl a 28, sl a 29, sl a 30, sl a 31, sl a 32, sl a 33, sl a 34, sl a 35, sl a 36, sl a 37, sl a 38, sl a 39, sl a 40, sl a 41, sl a 42, sl a 43, sl a 44, sl a 45, sl a 46, sl a 47, sl a 48, sl a 49, sl a 50, sl a 51, sl a 52, sl a 53, sl a 54, sl a 55, sl a 56, sl a 57, sl a 58, sl a 59, sl a 60, sl a 61, sl a 62, sl a 63, sl a 64, sl a 65], []⟩ := act_of (by rw [hsz]; rfl) hdf ⟨hs 0 rfl, rfl, hs 2 rfl, hs 3 rfl, hs 4 rfl, hs 5 rfl, hs 6 rfl, hp7, rfl, rfl, rfl, rfl, rfl, rfl, rfl, rfl, rfl, rfl, rfl, rfl, rfl, rfl, rfl, rfl, rfl, rfl, rfl, rfl, rfl, rfl, rfl, rfl, rfl, rfl, rfl, rfl, rfl, rfl, rfl, rfl, rfl, rfl, rfl, rfl, rfl, rfl, rfl, rfl, rfl, rfl, rfl, rfl, rfl, rfl, rfl, rfl, rfl, rfl, rfl, rfl, rfl, rfl, rfl, rfl, rfl, rfl, trivial⟩
    clear hsz hdf hf hs
    rw [hact]
    clear hact
    rw [H41.out] at hc7
    have HW8 := Lib.hid hB8
    have hS8 := HS1.out.below hB8 hg1
    have hcv1 := conv_sub hS8 32 11 (c - 32) (by omega) (by omega)
    have hne7 : ¬ p7 = g := by omega
    have hcv2 : (convert 36 9 (.slice (some ⟨g, 43, none⟩) 8 (c - 43))).run Try.prog (W8.setCell ⟨p7, 5, none⟩ (.string (strOfNums (trimL (subL ys 32 11))))) = .ok (.string (strOfNums (subL ys 43 8))) (W8.setCell ⟨p7, 5, none⟩ (.string (strOfNums (trimL (subL ys 32 11))))) := conv_sub (hS8.setCell hne7) 43 8 (c - 43) (by omega) (by omega)
    have h83 : blkD W8 g3 = #[.pointer (some ⟨g2, 0, none⟩), .int .u16 (p16 ys 13), .int .u16 (p16 ys 15), .int .u32 (p32 ys 17), .int .u32 (p32 ys 21)] := (bblk hB8 g3 hg3).trans HC3.out
    have h82 : blkD W8 g2 = #[.int .u16 512, .int .u8 (p8 ys 2), .int .u16 (p16 ys 3), .int .u8 (p8 ys 5), .int .u16 (p16 ys 6), .int .u16 (p16 ys 8), .int .u8 (p8 ys 10), .int .u16 (p16 ys 11)] := (bblk hB8 g2 hg2).trans HC2.out
    have H83 := Lib.hid h83
    have H82 := Lib.hid h82
    have hn3 : p7 ≠ g3 := by omega
    have hn2 : p7 ≠ g2 := by omega
    have HC7 := Lib.hid hc7
    clear hB8 hS8 h83 h82
    go_wp2_with fail
    refine (ztrim_any (subL ys 32 11) W8 (subL_byt HB.out 32 11) (by rw [subL_len (by omega)]; omega)).mono ?_
    rintro e w2 ⟨rfl, rfl⟩
    go_wp2_with fail
    refine (ztrim_any (subL ys 43 8) _ (subL_byt HB.out 43 8) (by rw [subL_len (by omega)]; omega)).mono ?_
    rintro e w2 ⟨rfl, rfl⟩
    go_wp2_with fail
    go_ret3
    refine ⟨p7, g3, g2, rfl, ?_, ?_, ?_, by have := HB1.out.size; omega, hw3, hw2, ?_⟩
    · rw [blkD_setCell_same, blkD_setCell_same, HC7.out]
      rfl
    · rw [blkD_setCell_other _ _ _ _ _ hn3, blkD_setCell_other _ _ _ _ _ hn3]
      exact H83.out
    · rw [blkD_setCell_other _ _ _ _ _ hn2, blkD_setCell_other _ _ _ _ _ hn2]
      exact H82.out
    · have hz := HB1.out.size
      exact ((HB1.out.trans (HW8.out.mono hz)).setCell (p := ⟨p7, 5, none⟩) (by show w.heap.size ≤ p7; omega) _).setCell (p := ⟨p7, 6, none⟩) (by show w.heap.size ≤ p7; omega) _
end Go.Proofs.Yteklgajjclldkaa
