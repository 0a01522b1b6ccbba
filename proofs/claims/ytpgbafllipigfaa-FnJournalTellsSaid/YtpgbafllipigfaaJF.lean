/- Walk of JournalSuperblockFromBytes. -/
import Derived.Test.YtpgbafllipigfaaJE
namespace Go.Proofs.Ytpgbafllipigfaa
open Go.RowKit
attribute [local go_sem ↓] Go.wp_at_zero Go.wp_at_succ
set_option linter.unusedVariables false

theorem blkR_of_blkD {w : World} {g : Nat} (h : 0 < (blkD w g).size) : blkR w g = blkD w g := by
  obtain ⟨n, hn⟩ : ∃ n, (blkD w g).size = n + 1 := ⟨(blkD w g).size - 1, by omega⟩
  obtain ⟨t, ht⟩ := blkD_heap hn
  unfold blkR
  rw [ht]

set_option maxRecDepth 100000 in
set_option maxHeartbeats 8000000 in
theorem fb_any (gb c : Nat) (R C uu : Array Value) (w : World) (hR : blkR w gb = R) (hRz : 1024 ≤ R.size) (hC : CellsC w gb C) (hg : gb < w.heap.size) (hc : 1024 ≤ c) (hmag : rd4 C 0 = 3225106840) (htyp : rd4 C 4 = 4)
    (huu : sub R 48 16 = uu) (huz : uu.size = 16) (huo : ones uu = true) :
    Calls Try.prog 11 #[.slice (some ⟨gb, 0, none⟩) 1024 c] w fun e w' => ∃ gj gh gu, e = .returned (.tuple #[.pointer (some ⟨gj, 0, none⟩), .nilIface]) ∧
      blkD w' gj = #[.pointer (some ⟨gh, 0, none⟩), .int .u32 (rd4 C 12), .int .u32 (rd4 C 16), .int .u32 (rd4 C 20), .int .u32 (rd4 C 24), .int .u32 (rd4 C 28), .int .u32 (rd4 C 32), .int .u32 (rd4 C 36), .int .u32 (rd4 C 40), .int .u32 (rd4 C 44), .pointer (some ⟨gu, 0, none⟩), .int .u32 (rd4 C 64), .int .u32 (rd4 C 68), .int .u32 (rd4 C 72), .int .u32 (rd4 C 76), .int .u8 (nb C 80), .int .u32 (rd4 C 84), .int .u32 (rd4 C 88), .int .u32 (rd4 C 252)] ∧ blkD w' gh = #[.int .u32 3225106840, .int .u32 4, .int .u32 (rd4 C 8)] ∧ blkD w' gu = uu ∧ Below w.heap.size w w' := by
  have HC := Lib.hid hC
  have HM := Lib.hid hmag
  have HT := Lib.hid htyp
  have HR := Lib.hid hR
  clear hC hmag htyp hR
  have l12 : (12 : Int) ≤ (c : Int) := by omega
  have n12 : ¬ c = 12 := by omega
  have l16 : (16 : Int) ≤ (c : Int) := by omega
  have n16 : ¬ c = 16 := by omega
  have l20 : (20 : Int) ≤ (c : Int) := by omega
  have n20 : ¬ c = 20 := by omega
  have l24 : (24 : Int) ≤ (c : Int) := by omega
  have n24 : ¬ c = 24 := by omega
  have l28 : (28 : Int) ≤ (c : Int) := by omega
  have n28 : ¬ c = 28 := by omega
  have l32 : (32 : Int) ≤ (c : Int) := by omega
  have n32 : ¬ c = 32 := by omega
  have l36 : (36 : Int) ≤ (c : Int) := by omega
  have n36 : ¬ c = 36 := by omega
  have l40 : (40 : Int) ≤ (c : Int) := by omega
  have n40 : ¬ c = 40 := by omega
  have l44 : (44 : Int) ≤ (c : Int) := by omega
  have n44 : ¬ c = 44 := by omega
  have l48 : (48 : Int) ≤ (c : Int) := by omega
  have n48 : ¬ c = 48 := by omega
  have l64 : (64 : Int) ≤ (c : Int) := by omega
  have n64 : ¬ c = 64 := by omega
  have l68 : (68 : Int) ≤ (c : Int) := by omega
  have n68 : ¬ c = 68 := by omega
  have l72 : (72 : Int) ≤ (c : Int) := by omega
  have n72 : ¬ c = 72 := by omega
  have l76 : (76 : Int) ≤ (c : Int) := by omega
  have n76 : ¬ c = 76 := by omega
  have l80 : (80 : Int) ≤ (c : Int) := by omega
  have n80 : ¬ c = 80 := by omega
  have l84 : (84 : Int) ≤ (c : Int) := by omega
  have n84 : ¬ c = 84 := by omega
  have l88 : (88 : Int) ≤ (c : Int) := by omega
  have n88 : ¬ c = 88 := by omega
  have l92 : (92 : Int) ≤ (c : Int) := by omega
  have n92 : ¬ c = 92 := by omega
  have l252 : (252 : Int) ≤ (c : Int) := by omega
  have n252 : ¬ c = 252 := by omega
  have l256 : (256 : Int) ≤ (c : Int) := by omega
  have n256 : ¬ c = 256 := by omega
  go_enter Try.func11, Try.ntmps11
  go_wp2_with fail
  refine (hfb_any gb _ C _ HC.out hg hc HM.out).mono ?_
  rintro e W1 ⟨gh, rfl, hh1, hb1⟩
  rw [HT.out] at hh1
  have hgh : gh < W1.heap.size := blkD_lt (i := 0) (by rw [hh1]; simp)
  have hg1 : gb < W1.heap.size := by have := hb1.size; omega
  have HC1 := Lib.hid (HC.out.below hb1 hg)
  have HR1 := Lib.hid ((bblkR hb1 gb hg).trans HR.out)
  go_wp2
  have HH1 := Lib.hid hh1
  clear hh1
  refine wp_region_met (by kernel_rfl) (fun w' => Below W1.heap.size W1 w') (fun w1 w2 => Below w1.heap.size w1 w2) (fun i v w' => Fact W1.heap.size ([.inl (.pointer (some ⟨gh, 0, none⟩)), .inl (.agg #[]), .inl (.slice (some ⟨gb, 0, none⟩) 1024 c), .inl (.slice (some ⟨gb, 12, none⟩) 4 (c - 12)), .inl (.int .u32 (rd4 C 12)), .inl (.agg #[]), .inl (.slice (some ⟨gb, 0, none⟩) 1024 c), .inl (.slice (some ⟨gb, 16, none⟩) 4 (c - 16)), .inl (.int .u32 (rd4 C 16)), .inl (.agg #[]), .inl (.slice (some ⟨gb, 0, none⟩) 1024 c), .inl (.slice (some ⟨gb, 20, none⟩) 4 (c - 20)), .inl (.int .u32 (rd4 C 20)), .inl (.agg #[]), .inl (.slice (some ⟨gb, 0, none⟩) 1024 c), .inl (.slice (some ⟨gb, 24, none⟩) 4 (c - 24)), .inl (.int .u32 (rd4 C 24)), .inl (.agg #[]), .inl (.slice (some ⟨gb, 0, none⟩) 1024 c), .inl (.slice (some ⟨gb, 28, none⟩) 4 (c - 28)), .inl (.int .u32 (rd4 C 28)), .inl (.agg #[]), .inl (.slice (some ⟨gb, 0, none⟩) 1024 c), .inl (.slice (some ⟨gb, 32, none⟩) 4 (c - 32)), .inl (.int .u32 (rd4 C 32)), .inl (.agg #[.pointer (some ⟨gh, 0, none⟩), .int .u32 (rd4 C 12), .int .u32 (rd4 C 16), .int .u32 (rd4 C 20), .int .u32 (rd4 C 24), .int .u32 (rd4 C 28), .int .u32 (rd4 C 32), .int .u32 0, .int .u32 0, .int .u32 0, .pointer none, .int .u32 0, .int .u32 0, .int .u32 0, .int .u32 0, .int .u8 0, .int .u32 0, .int .u32 0, .int .u32 0]), .inr (#[.pointer (some ⟨gh, 0, none⟩), .int .u32 (rd4 C 12), .int .u32 (rd4 C 16), .int .u32 (rd4 C 20), .int .u32 (rd4 C 24), .int .u32 (rd4 C 28), .int .u32 (rd4 C 32), .int .u32 0, .int .u32 0, .int .u32 0, .pointer none, .int .u32 0, .int .u32 0, .int .u32 0, .int .u32 0, .int .u8 0, .int .u32 0, .int .u32 0, .int .u32 0]), .inr (#[.pointer (some ⟨gh, 0, none⟩), .int .u32 (rd4 C 12), .int .u32 (rd4 C 16), .int .u32 (rd4 C 20), .int .u32 (rd4 C 24), .int .u32 (rd4 C 28), .int .u32 (rd4 C 32), .int .u32 0, .int .u32 0, .int .u32 0, .pointer none, .int .u32 0, .int .u32 0, .int .u32 0, .int .u32 0, .int .u8 0, .int .u32 0, .int .u32 0, .int .u32 0])][i]?.getD (.inl undef)) v w') (by kernel_rfl) ?_ (by intro i v w1 w2 _ hE hF; exact Fact.keep hE hF) ?_ ⟨⟨rfl, ?_⟩, ⟨rfl, ?_⟩, ⟨rfl, ?_⟩, ⟨rfl, ?_⟩, ⟨rfl, ?_⟩, ⟨rfl, ?_⟩, ⟨rfl, ?_⟩, ⟨rfl, ?_⟩, ⟨rfl, ?_⟩, ⟨rfl, ?_⟩, ⟨rfl, ?_⟩, ⟨rfl, ?_⟩, ⟨rfl, ?_⟩, ⟨rfl, ?_⟩, ⟨rfl, ?_⟩, ⟨rfl, ?_⟩, ⟨rfl, ?_⟩, ⟨rfl, ?_⟩, ⟨rfl, ?_⟩, ⟨rfl, ?_⟩, ⟨rfl, ?_⟩, ⟨rfl, ?_⟩, ⟨rfl, ?_⟩, ⟨rfl, ?_⟩, ⟨rfl, ?_⟩, ⟨rfl, ?_⟩, ⟨rfl, ?_⟩, ⟨rfl, ?_⟩, trivial⟩ ?_
  · intro w1 w2 h1 hE; exact h1.trans (hE.mono h1.size)
  · exact (Below.refl _ _).drew
  · intro a w' K hB hd hs hK; have d4 : a.tmps.getD 4 undef = .pointer (some ⟨gh, 0, none⟩) := hs 4 rfl; clear hd hs; go_simp; exact hK _ _ rfl (Below.refl _ _)
  · intro a w' K hB hd hs hK; skip; clear hd hs; go_simp; exact hK _ _ rfl (Below.refl _ _)
  · intro a w' K hB hd hs hK; have d0 : a.tmps.getD 0 undef = .slice (some ⟨gb, 0, none⟩) 1024 c := hs 0 rfl; clear hd hs; go_simp; exact hK _ _ rfl (Below.refl _ _)
  · intro a w' K hB hd hs hK; have d38 : a.tmps.getD 38 undef = .slice (some ⟨gb, 0, none⟩) 1024 c := hd 2 rfl; clear hd hs; go_simp; exact hK _ _ rfl (Below.refl _ _)
  · intro a w' K hB hd hs hK; have d37 : a.tmps.getD 37 undef = .agg #[] := hd 1 rfl; have d39 : a.tmps.getD 39 undef = .slice (some ⟨gb, 12, none⟩) 4 (c - 12) := hd 3 rfl; clear hd hs; go_simp; refine (ru_C gb 12 _ C _ (HC1.out.below hB hg1) (by omega) (by have := hB.size; omega)).mono ?_; rintro e w2 ⟨rfl, rfl⟩; exact hK _ _ rfl ((Below.refl _ _).alloc (Nat.le_refl _) _).drew
  · intro a w' K hB hd hs hK; skip; clear hd hs; go_simp; exact hK _ _ rfl (Below.refl _ _)
  · intro a w' K hB hd hs hK; have d0 : a.tmps.getD 0 undef = .slice (some ⟨gb, 0, none⟩) 1024 c := hs 0 rfl; clear hd hs; go_simp; exact hK _ _ rfl (Below.refl _ _)
  · intro a w' K hB hd hs hK; have d42 : a.tmps.getD 42 undef = .slice (some ⟨gb, 0, none⟩) 1024 c := hd 6 rfl; clear hd hs; go_simp; exact hK _ _ rfl (Below.refl _ _)
  · intro a w' K hB hd hs hK; have d41 : a.tmps.getD 41 undef = .agg #[] := hd 5 rfl; have d43 : a.tmps.getD 43 undef = .slice (some ⟨gb, 16, none⟩) 4 (c - 16) := hd 7 rfl; clear hd hs; go_simp; refine (ru_C gb 16 _ C _ (HC1.out.below hB hg1) (by omega) (by have := hB.size; omega)).mono ?_; rintro e w2 ⟨rfl, rfl⟩; exact hK _ _ rfl ((Below.refl _ _).alloc (Nat.le_refl _) _).drew
  · intro a w' K hB hd hs hK; skip; clear hd hs; go_simp; exact hK _ _ rfl (Below.refl _ _)
  · intro a w' K hB hd hs hK; have d0 : a.tmps.getD 0 undef = .slice (some ⟨gb, 0, none⟩) 1024 c := hs 0 rfl; clear hd hs; go_simp; exact hK _ _ rfl (Below.refl _ _)
  · intro a w' K hB hd hs hK; have d46 : a.tmps.getD 46 undef = .slice (some ⟨gb, 0, none⟩) 1024 c := hd 10 rfl; clear hd hs; go_simp; exact hK _ _ rfl (Below.refl _ _)
  · intro a w' K hB hd hs hK; have d45 : a.tmps.getD 45 undef = .agg #[] := hd 9 rfl; have d47 : a.tmps.getD 47 undef = .slice (some ⟨gb, 20, none⟩) 4 (c - 20) := hd 11 rfl; clear hd hs; go_simp; refine (ru_C gb 20 _ C _ (HC1.out.below hB hg1) (by omega) (by have := hB.size; omega)).mono ?_; rintro e w2 ⟨rfl, rfl⟩; exact hK _ _ rfl ((Below.refl _ _).alloc (Nat.le_refl _) _).drew
  · intro a w' K hB hd hs hK; skip; clear hd hs; go_simp; exact hK _ _ rfl (Below.refl _ _)
  · intro a w' K hB hd hs hK; have d0 : a.tmps.getD 0 undef = .slice (some ⟨gb, 0, none⟩) 1024 c := hs 0 rfl; clear hd hs; go_simp; exact hK _ _ rfl (Below.refl _ _)
  · intro a w' K hB hd hs hK; have d50 : a.tmps.getD 50 undef = .slice (some ⟨gb, 0, none⟩) 1024 c := hd 14 rfl; clear hd hs; go_simp; exact hK _ _ rfl (Below.refl _ _)
  · intro a w' K hB hd hs hK; have d49 : a.tmps.getD 49 undef = .agg #[] := hd 13 rfl; have d51 : a.tmps.getD 51 undef = .slice (some ⟨gb, 24, none⟩) 4 (c - 24) := hd 15 rfl; clear hd hs; go_simp; refine (ru_C gb 24 _ C _ (HC1.out.below hB hg1) (by omega) (by have := hB.size; omega)).mono ?_; rintro e w2 ⟨rfl, rfl⟩; exact hK _ _ rfl ((Below.refl _ _).alloc (Nat.le_refl _) _).drew
  · intro a w' K hB hd hs hK; skip; clear hd hs; go_simp; exact hK _ _ rfl (Below.refl _ _)
  · intro a w' K hB hd hs hK; have d0 : a.tmps.getD 0 undef = .slice (some ⟨gb, 0, none⟩) 1024 c := hs 0 rfl; clear hd hs; go_simp; exact hK _ _ rfl (Below.refl _ _)
  · intro a w' K hB hd hs hK; have d54 : a.tmps.getD 54 undef = .slice (some ⟨gb, 0, none⟩) 1024 c := hd 18 rfl; clear hd hs; go_simp; exact hK _ _ rfl (Below.refl _ _)
  · intro a w' K hB hd hs hK; have d53 : a.tmps.getD 53 undef = .agg #[] := hd 17 rfl; have d55 : a.tmps.getD 55 undef = .slice (some ⟨gb, 28, none⟩) 4 (c - 28) := hd 19 rfl; clear hd hs; go_simp; refine (ru_C gb 28 _ C _ (HC1.out.below hB hg1) (by omega) (by have := hB.size; omega)).mono ?_; rintro e w2 ⟨rfl, rfl⟩; exact hK _ _ rfl ((Below.refl _ _).alloc (Nat.le_refl _) _).drew
  · intro a w' K hB hd hs hK; skip; clear hd hs; go_simp; exact hK _ _ rfl (Below.refl _ _)
  · intro a w' K hB hd hs hK; have d0 : a.tmps.getD 0 undef = .slice (some ⟨gb, 0, none⟩) 1024 c := hs 0 rfl; clear hd hs; go_simp; exact hK _ _ rfl (Below.refl _ _)
  · intro a w' K hB hd hs hK; have d58 : a.tmps.getD 58 undef = .slice (some ⟨gb, 0, none⟩) 1024 c := hd 22 rfl; clear hd hs; go_simp; exact hK _ _ rfl (Below.refl _ _)
  · intro a w' K hB hd hs hK; have d57 : a.tmps.getD 57 undef = .agg #[] := hd 21 rfl; have d59 : a.tmps.getD 59 undef = .slice (some ⟨gb, 32, none⟩) 4 (c - 32) := hd 23 rfl; clear hd hs; go_simp; refine (ru_C gb 32 _ C _ (HC1.out.below hB hg1) (by omega) (by have := hB.size; omega)).mono ?_; rintro e w2 ⟨rfl, rfl⟩; exact hK _ _ rfl ((Below.refl _ _).alloc (Nat.le_refl _) _).drew
  · intro a w' K hB hd hs hK; have d36 : a.tmps.getD 36 undef = .pointer (some ⟨gh, 0, none⟩) := hd 0 rfl; have d40 : a.tmps.getD 40 undef = .int .u32 (rd4 C 12) := hd 4 rfl; have d44 : a.tmps.getD 44 undef = .int .u32 (rd4 C 16) := hd 8 rfl; have d48 : a.tmps.getD 48 undef = .int .u32 (rd4 C 20) := hd 12 rfl; have d52 : a.tmps.getD 52 undef = .int .u32 (rd4 C 24) := hd 16 rfl; have d56 : a.tmps.getD 56 undef = .int .u32 (rd4 C 28) := hd 20 rfl; have d60 : a.tmps.getD 60 undef = .int .u32 (rd4 C 32) := hd 24 rfl; clear hd hs; have e36 := d36; rw [Array.getD_eq_getD_getElem?] at e36; have e40 := d40; rw [Array.getD_eq_getD_getElem?] at e40; have e44 := d44; rw [Array.getD_eq_getD_getElem?] at e44; have e48 := d48; rw [Array.getD_eq_getD_getElem?] at e48; have e52 := d52; rw [Array.getD_eq_getD_getElem?] at e52; have e56 := d56; rw [Array.getD_eq_getD_getElem?] at e56; have e60 := d60; rw [Array.getD_eq_getD_getElem?] at e60; go_simp; exact hK _ _ rfl (Below.refl _ _)
  · intro a w' K hB hd hs hK; have d61 : a.tmps.getD 61 undef = .agg #[.pointer (some ⟨gh, 0, none⟩), .int .u32 (rd4 C 12), .int .u32 (rd4 C 16), .int .u32 (rd4 C 20), .int .u32 (rd4 C 24), .int .u32 (rd4 C 28), .int .u32 (rd4 C 32), .int .u32 0, .int .u32 0, .int .u32 0, .pointer none, .int .u32 0, .int .u32 0, .int .u32 0, .int .u32 0, .int .u8 0, .int .u32 0, .int .u32 0, .int .u32 0] := hd 25 rfl; clear hd hs; go_simp; exact hK (.pointer (some ⟨w'.heap.size, 0, none⟩)) (w'.alloc (.cells #[.pointer (some ⟨gh, 0, none⟩), .int .u32 (rd4 C 12), .int .u32 (rd4 C 16), .int .u32 (rd4 C 20), .int .u32 (rd4 C 24), .int .u32 (rd4 C 28), .int .u32 (rd4 C 32), .int .u32 0, .int .u32 0, .int .u32 0, .pointer none, .int .u32 0, .int .u32 0, .int .u32 0, .int .u32 0, .int .u8 0, .int .u32 0, .int .u32 0, .int .u32 0] 54)) ⟨w'.heap.size, rfl, by simp [go_sem], by simp, hB.size⟩ ((Below.refl _ _).alloc (Nat.le_refl _) _)
  · intro a w' K hB hd hs hK; obtain ⟨g62, d62, c62, z62⟩ : ∃ g, a.tmps.getD 62 undef = .pointer (some ⟨g, 0, none⟩) ∧ blkD w' g = #[.pointer (some ⟨gh, 0, none⟩), .int .u32 (rd4 C 12), .int .u32 (rd4 C 16), .int .u32 (rd4 C 20), .int .u32 (rd4 C 24), .int .u32 (rd4 C 28), .int .u32 (rd4 C 32), .int .u32 0, .int .u32 0, .int .u32 0, .pointer none, .int .u32 0, .int .u32 0, .int .u32 0, .int .u32 0, .int .u8 0, .int .u32 0, .int .u32 0, .int .u32 0] ∧ 0 < (#[.pointer (some ⟨gh, 0, none⟩), .int .u32 (rd4 C 12), .int .u32 (rd4 C 16), .int .u32 (rd4 C 20), .int .u32 (rd4 C 24), .int .u32 (rd4 C 28), .int .u32 (rd4 C 32), .int .u32 0, .int .u32 0, .int .u32 0, .pointer none, .int .u32 0, .int .u32 0, .int .u32 0, .int .u32 0, .int .u8 0, .int .u32 0, .int .u32 0, .int .u32 0]).size ∧ W1.heap.size ≤ g := hd 26 rfl; clear hd hs; go_simp; exact hK _ _ ⟨g62, rfl, c62, z62⟩ (Below.refl _ _)
  · intro a W8 hB8 hsz hdf hf hs
    obtain ⟨p6, hp6, hc6, _, hq6⟩ : ∃ g, a.tmps.getD 6 undef = .pointer (some ⟨g, 0, none⟩) ∧ blkD W8 g = #[.pointer (some ⟨gh, 0, none⟩), .int .u32 (rd4 C 12), .int .u32 (rd4 C 16), .int .u32 (rd4 C 20), .int .u32 (rd4 C 24), .int .u32 (rd4 C 28), .int .u32 (rd4 C 32), .int .u32 0, .int .u32 0, .int .u32 0, .pointer none, .int .u32 0, .int .u32 0, .int .u32 0, .int .u32 0, .int .u8 0, .int .u32 0, .int .u32 0, .int .u32 0] ∧ 0 < (#[.pointer (some ⟨gh, 0, none⟩), .int .u32 (rd4 C 12), .int .u32 (rd4 C 16), .int .u32 (rd4 C 20), .int .u32 (rd4 C 24), .int .u32 (rd4 C 28), .int .u32 (rd4 C 32), .int .u32 0, .int .u32 0, .int .u32 0, .pointer none, .int .u32 0, .int .u32 0, .int .u32 0, .int .u32 0, .int .u8 0, .int .u32 0, .int .u32 0, .int .u32 0]).size ∧ W1.heap.size ≤ g := hf 27 rfl
    have hact : a = ⟨#[.slice (some ⟨gb, 0, none⟩) 1024 c, sl a 1, .pointer none, .nilIface, .pointer (some ⟨gh, 0, none⟩), sl a 5, .pointer (some ⟨p6, 0, none⟩), sl a 7, sl a 8, sl a 9, sl a 10, sl a 11, sl a 12, sl a 13, sl a 14, sl a 15, sl a 16, sl a 17, sl a 18, sl a 19, sl a 20, sl a 21, sl a 22, sl a 23, sl a 24, sl a 25, sl a 26, sl a 27, sl a 28, sl a 29, sl a 30, sl a 31, sl a 32, sl a 33, sl a 34, sl a 35, sl a 36, sl a 37, sl a 38, sl a 39, sl a 40, sl a 41, sl a 42, sl a 43, sl a 44, sl a 45, sl a 46, sl a 47, sl a 48, sl a 49, sl a 50, sl a 51, sl a 52, sl a 53, sl a 54, sl a 55, sl a 56, sl a 57, sl a 58, sl a 59, sl a 60, sl a 61, sl a 62, sl a 63, sl a 64, sl a 65, sl a 66, sl a 67, sl a 68, sl a 69, sl a 70, sl a 71, sl a 72, sl a 73, sl a 74, sl a 75, sl a 76, sl a 77, sl a 78, sl a 79, sl a 80, sl a 81, sl a 82, sl a 83, sl a 84, sl a 85, sl a 86, sl a 87, sl a 88, sl a 89, sl a 90, sl a 91, sl a 92, sl a 93, sl a 94, sl a 95, sl a 96, sl a 97, sl a 98, sl a 99, sl a 100, sl a 101, sl a 102, sl a 103, sl a 104, sl a 105, sl a 106, sl a 107, sl a 108, sl a 109, sl a 110, sl a 111, sl a 112, sl a 113, sl a 114, sl a 115, sl a 116, sl a 117, sl a 118, sl a 119, sl a 120, sl a 121, sl a 122, sl a 123, sl a 124, sl a 125, sl a 126, sl a 127, sl a 128, sl a 129, sl a 130, sl a 131, sl a 132, sl a 133, sl a 134, sl a 135, sl a 136, sl a 137, sl a 138, sl a 139, sl a 140, sl a 141, sl a 142, sl a 143, sl a 144, sl a 145, sl a 146, sl a 147, sl a 148, sl a 149, sl a 150, sl a 151, sl a 152, sl a 153, sl a 154, sl a 155, sl a 156, sl a 157, sl a 158, sl a 159], []⟩ := act_of (by rw [hsz]; rfl) hdf ⟨hs 0 rfl, rfl, hs 2 rfl, hs 3 rfl, hs 4 rfl, rfl, hp6, rfl, rfl, rfl, rfl, rfl, rfl, rfl, rfl, rfl, rfl, rfl, rfl, rfl, rfl, rfl, rfl, rfl, rfl, rfl, rfl, rfl, rfl, rfl, rfl, rfl, rfl, rfl, rfl, rfl, rfl, rfl, rfl, rfl, rfl, rfl, rfl, rfl, rfl, rfl, rfl, rfl, rfl, rfl, rfl, rfl, rfl, rfl, rfl, rfl, rfl, rfl, rfl, rfl, rfl, rfl, rfl, rfl, rfl, rfl, rfl, rfl, rfl, rfl, rfl, rfl, rfl, rfl, rfl, rfl, rfl, rfl, rfl, rfl, rfl, rfl, rfl, rfl, rfl, rfl, rfl, rfl, rfl, rfl, rfl, rfl, rfl, rfl, rfl, rfl, rfl, rfl, rfl, rfl, rfl, rfl, rfl, rfl, rfl, rfl, rfl, rfl, rfl, rfl, rfl, rfl, rfl, rfl, rfl, rfl, rfl, rfl, rfl, rfl, rfl, rfl, rfl, rfl, rfl, rfl, rfl, rfl, rfl, rfl, rfl, rfl, rfl, rfl, rfl, rfl, rfl, rfl, rfl, rfl, rfl, rfl, rfl, rfl, rfl, rfl, rfl, rfl, rfl, rfl, rfl, rfl, rfl, rfl, rfl, rfl, rfl, rfl, rfl, rfl, trivial⟩
    clear hsz hdf hf hs
    rw [hact]
    clear hact
    have z8 := hB8.size
    have hp6 : p6 < W8.heap.size := blkD_lt (i := 0) (by rw [hc6]; simp)
    have hg8 : gb < W8.heap.size := by omega
    have hh8' : gh < W8.heap.size := by omega
    have hR8 : blkR W8 gb = R := (bblkR hB8 gb hg1).trans HR1.out
    have hh8 : blkD W8 gh = #[.int .u32 3225106840, .int .u32 4, .int .u32 (rd4 C 8)] := (bblk hB8 gh hgh).trans HH1.out
    have hC8 : CellsC W8 gb C := HC1.out.below hB8 hg1
    have h80 : W8.cell? ⟨gb, 80, none⟩ = some (.int .u8 (nb C 80)) := (hC8 80 (by omega)).1
    have ne1 : ¬ p6 = gb := fun e => by
      have h1 := blkR_of_blkD (w := W8) (g := p6) (by rw [hc6]; simp)
      rw [e, hR8, ← e, hc6] at h1
      rw [h1] at hRz
      simp at hRz
    have ne2 : ¬ p6 = gh := fun e => by
      rw [e, hh8] at hc6
      have := congrArg Array.size hc6
      simp at this
    have hsz := sp_all #[.int .u8 0, .int .u8 0, .int .u8 0, .int .u8 0, .int .u8 0, .int .u8 0, .int .u8 0, .int .u8 0, .int .u8 0, .int .u8 0, .int .u8 0, .int .u8 0, .int .u8 0, .int .u8 0, .int .u8 0, .int .u8 0] uu (by rw [huz]; rfl)
    have r64 : 64 ≤ R.size := by omega
    have ne3 : ¬ W8.heap.size = p6 := by omega
    have ne4 : ¬ W8.heap.size = gb := by omega
    have ne5 : ¬ W8.heap.size = gh := by omega
    have HB8 := Lib.hid (hb1.trans (hB8.mono hb1.size))
    obtain ⟨q1, q2, q3, q4, q5, q6, q7, q8, q9, q10, q11, q12, q13, q14, q15, q16, q17, q18, q19, q20, q21, q22, q23, q24⟩ := lt_all hp6
    obtain ⟨r1, r2, r3, r4, r5, r6, r7, r8, r9, r10, r11, r12, r13, r14, r15, r16, r17, r18, r19, r20, r21, r22, r23, r24⟩ := lt_all hg8
    obtain ⟨z1, z2, z3, z4, z5, z6, z7, z8, z9, z10, z11, z12, z13, z14, z15, z16, z17, z18, z19, z20, z21, z22, z23, z24⟩ := lt_all hh8'
    clear hB8 z8
    go_wp2
    go_region_held3 (fun w' => CellsC w' gb C) (first | (with_reducible assumption) | (simp [go_sem, *]; done))
      (first | (go_at_call 23; refine (ru_C gb 36 _ C _ ?_ (by omega) ?_).mono ?_; (with_reducible assumption); (simp [go_sem, *]); rintro e w1 ⟨rfl, rfl⟩))
    go_wp2
    go_region_held3 (fun w' => CellsC w' gb C) (first | (with_reducible assumption) | (simp [go_sem, *]; done))
      (first | (go_at_call 23; refine (ru_C gb 40 _ C _ ?_ (by omega) ?_).mono ?_; (with_reducible assumption); (simp [go_sem, *]); rintro e w1 ⟨rfl, rfl⟩))
    go_wp2
    go_region_held3 (fun w' => CellsC w' gb C) (first | (with_reducible assumption) | (simp [go_sem, *]; done))
      (first | (go_at_call 23; refine (ru_C gb 44 _ C _ ?_ (by omega) ?_).mono ?_; (with_reducible assumption); (simp [go_sem, *]); rintro e w1 ⟨rfl, rfl⟩))
    go_wp2_with (first | (go_at_call 24; refine (ufb_any _ _ uu _ ?_ huz huo).mono ?_; (simp [go_sem, *]); rintro e w1 ⟨rfl, rfl⟩))
    go_region_held3 (fun w' => CellsC w' gb C) (first | (with_reducible assumption) | (simp [go_sem, *]; done))
      (first | (go_at_call 23; refine (ru_C gb 64 _ C _ ?_ (by omega) ?_).mono ?_; (with_reducible assumption); (simp [go_sem, *]); rintro e w1 ⟨rfl, rfl⟩))
    go_wp2
    go_region_held3 (fun w' => CellsC w' gb C) (first | (with_reducible assumption) | (simp [go_sem, *]; done))
      (first | (go_at_call 23; refine (ru_C gb 68 _ C _ ?_ (by omega) ?_).mono ?_; (with_reducible assumption); (simp [go_sem, *]); rintro e w1 ⟨rfl, rfl⟩))
    go_wp2
    go_region_held3 (fun w' => CellsC w' gb C) (first | (with_reducible assumption) | (simp [go_sem, *]; done))
      (first | (go_at_call 23; refine (ru_C gb 72 _ C _ ?_ (by omega) ?_).mono ?_; (with_reducible assumption); (simp [go_sem, *]); rintro e w1 ⟨rfl, rfl⟩))
    go_wp2
    go_region_held3 (fun w' => CellsC w' gb C) (first | (with_reducible assumption) | (simp [go_sem, *]; done))
      (first | (go_at_call 23; refine (ru_C gb 76 _ C _ ?_ (by omega) ?_).mono ?_; (with_reducible assumption); (simp [go_sem, *]); rintro e w1 ⟨rfl, rfl⟩))
    go_wp2
    go_region_held3 (fun w' => CellsC w' gb C) (first | (with_reducible assumption) | (simp [go_sem, *]; done))
      (first | (go_at_call 23; refine (ru_C gb 84 _ C _ ?_ (by omega) ?_).mono ?_; (with_reducible assumption); (simp [go_sem, *]); rintro e w1 ⟨rfl, rfl⟩))
    go_wp2
    go_region_held3 (fun w' => CellsC w' gb C) (first | (with_reducible assumption) | (simp [go_sem, *]; done))
      (first | (go_at_call 23; refine (ru_C gb 88 _ C _ ?_ (by omega) ?_).mono ?_; (with_reducible assumption); (simp [go_sem, *]); rintro e w1 ⟨rfl, rfl⟩))
    go_wp2
    go_region_held3 (fun w' => CellsC w' gb C) (first | (with_reducible assumption) | (simp [go_sem, *]; done))
      (first | (go_at_call 23; refine (ru_C gb 252 _ C _ ?_ (by omega) ?_).mono ?_; (with_reducible assumption); (simp [go_sem, *]); rintro e w1 ⟨rfl, rfl⟩))
    go_wp2
    go_ret2
    refine ⟨p6, gh, W8.heap.size + 1 + 1 + 1 + 1 + 1, rfl, by simp [go_sem, *], by simp [go_sem, *], by simp [go_sem, *], ?_⟩
    have z1 := hb1.size
    have z9 := HB8.out.size
    repeat (first | (with_reducible exact HB8.out) | (with_reducible refine below_drewN ?_ _) | (with_reducible refine Below.drew ?_) | (with_reducible refine Below.alloc ?_ ?_ _) | (with_reducible refine Below.setCell ?_ ?_ _))
    all_goals (first | omega | (simp; omega))
end Go.Proofs.Ytpgbafllipigfaa
