/- Walks of Dos20BPBFromBytes, Dos331BPBFromBytes. -/
import Derived.Test.YteklgajjclldkaaPA
import Derived.Deep.DrawnRows
namespace Go.Proofs.Yteklgajjclldkaa
open Go.RowKit
attribute [local go_sem ↓] Go.wp_at_zero Go.wp_at_succ
set_option linter.unusedVariables false

/-- what is known of what an operation of a drawn region has left: its value; or that it points to a block of these cells -/
def FactP (b : Nat) : Sum Value (Array Value) → Value → World → Prop
  | .inl u, v, _ => v = u
  | .inr cs, v, w => ∃ g, v = .pointer (some ⟨g, 0, none⟩) ∧ blkD w g = cs ∧ 0 < cs.size ∧ b ≤ g
theorem lt_blkD {w : World} {g i : Nat} (h : i < (blkD w g).size) : g < w.heap.size := by
  obtain ⟨n, hn⟩ : ∃ n, (blkD w g).size = n + 1 := ⟨(blkD w g).size - 1, by omega⟩
  obtain ⟨t, ht⟩ := blkD_heap hn
  exact (Array.getElem?_eq_some_iff.1 ht).1
theorem FactP.keep {b : Nat} {f : Sum Value (Array Value)} {v : Value} {w w' : World} (hE : Below w.heap.size w w') (h : FactP b f v w) : FactP b f v w' := by
  cases f with
  | inl u => exact h
  | inr cs =>
    obtain ⟨g, e, hc, hz, hg⟩ := h
    exact ⟨g, e, (bblk hE g (lt_blkD (i := 0) (by rw [hc]; exact hz))).trans hc, hz, hg⟩

set_option maxRecDepth 100000 in
set_option maxHeartbeats 4000000 in
theorem fb2_any (g c : Nat) (ys : List Int) (w : World) (hS : Bys w g ys) (hB : Byt ys) (hl : 13 ≤ ys.length) (hc : 13 ≤ c) (hg : g < w.heap.size) (h512 : p16 ys 0 = 512) :
    Calls Try.prog 17 #[.slice (some ⟨g, 0, none⟩) 13 c] w fun e w' => ∃ g2, e = .returned (.tuple #[.pointer (some ⟨g2, 0, none⟩), .nilIface]) ∧ blkD w' g2 = #[.int .u16 512, .int .u8 (p8 ys 2), .int .u16 (p16 ys 3), .int .u8 (p8 ys 5), .int .u16 (p16 ys 6), .int .u16 (p16 ys 8), .int .u8 (p8 ys 10), .int .u16 (p16 ys 11)] ∧ w.heap.size ≤ g2 ∧ Below w.heap.size w w' := by
  have HS := Lib.hid hS
  have HB := Lib.hid hB
  clear hS hB
  have H5 := Lib.hid h512
  clear h512
  have l2 : (2 : Int) ≤ (c : Int) := by omega
  have n2 : ¬ c = 2 := by omega
  have l3 : (3 : Int) ≤ (c : Int) := by omega
  have n3 : ¬ c = 3 := by omega
  have l5 : (5 : Int) ≤ (c : Int) := by omega
  have n5 : ¬ c = 5 := by omega
  have l6 : (6 : Int) ≤ (c : Int) := by omega
  have n6 : ¬ c = 6 := by omega
  have l8 : (8 : Int) ≤ (c : Int) := by omega
  have n8 : ¬ c = 8 := by omega
  have l10 : (10 : Int) ≤ (c : Int) := by omega
  have n10 : ¬ c = 10 := by omega
  have l11 : (11 : Int) ≤ (c : Int) := by omega
  have n11 : ¬ c = 11 := by omega
  have l13 : (13 : Int) ≤ (c : Int) := by omega
  have hand : bits BinOp.and IntKind.u16 512 511 = 0 := by decide +kernel
  go_enter Try.func17, Try.ntmps17
  go_wp2
  go_region_held3 (fun w' => Bys w' g ys) (first | (with_reducible assumption) | exact HS.out | (exact HS.out.below (((Below.refl _ _).drew).alloc (by simp) _).drew hg))
    (first | (go_at_call 25; refine (r16_S g 0 _ ys _ ?_ HB.out (by omega) ?_).mono ?_; (with_reducible assumption); (simp [*]); rw [H5.out]; rintro e w1 ⟨rfl, rfl⟩))
  go_wp2
  obtain ⟨W1, hW1⟩ : ∃ W1, W1 = (w.alloc (.cells #[] 64)).drew.drew := ⟨_, rfl⟩
  rw [← hW1]
  have hb1 : Below w.heap.size w W1 := by
    rw [hW1]
    exact ((Below.refl _ _).alloc (Nat.le_refl _) _).drew.drew
  have HS1 := Lib.hid (HS.out.below hb1 hg)
  have hg1 : g < W1.heap.size := by have := hb1.size; omega
  have HB1 := Lib.hid hb1
  clear hW1 hb1
  refine wp_region_met (by kernel_rfl) (fun w' => Below W1.heap.size W1 w') (fun w1 w2 => Below w1.heap.size w1 w2) (fun i v w' => FactP W1.heap.size ([.inl (.int .u16 512), .inl (.slice (some ⟨g, 0, none⟩) 13 c), .inl (.pointer (some ⟨g, 2, none⟩)), .inl (.int .u8 (p8 ys 2)), .inl (.agg #[]), .inl (.slice (some ⟨g, 0, none⟩) 13 c), .inl (.slice (some ⟨g, 3, none⟩) 2 (c - 3)), .inl (.int .u16 (p16 ys 3)), .inl (.slice (some ⟨g, 0, none⟩) 13 c), .inl (.pointer (some ⟨g, 5, none⟩)), .inl (.int .u8 (p8 ys 5)), .inl (.agg #[]), .inl (.slice (some ⟨g, 0, none⟩) 13 c), .inl (.slice (some ⟨g, 6, none⟩) 2 (c - 6)), .inl (.int .u16 (p16 ys 6)), .inl (.agg #[]), .inl (.slice (some ⟨g, 0, none⟩) 13 c), .inl (.slice (some ⟨g, 8, none⟩) 2 (c - 8)), .inl (.int .u16 (p16 ys 8)), .inl (.slice (some ⟨g, 0, none⟩) 13 c), .inl (.pointer (some ⟨g, 10, none⟩)), .inl (.int .u8 (p8 ys 10)), .inl (.agg #[]), .inl (.slice (some ⟨g, 0, none⟩) 13 c), .inl (.slice (some ⟨g, 11, none⟩) 2 (c - 11)), .inl (.int .u16 (p16 ys 11)), .inl (.agg #[.int .u16 512, .int .u8 (p8 ys 2), .int .u16 (p16 ys 3), .int .u8 (p8 ys 5), .int .u16 (p16 ys 6), .int .u16 (p16 ys 8), .int .u8 (p8 ys 10), .int .u16 (p16 ys 11)]), .inr (#[.int .u16 512, .int .u8 (p8 ys 2), .int .u16 (p16 ys 3), .int .u8 (p8 ys 5), .int .u16 (p16 ys 6), .int .u16 (p16 ys 8), .int .u8 (p8 ys 10), .int .u16 (p16 ys 11)]), .inr (#[.int .u16 512, .int .u8 (p8 ys 2), .int .u16 (p16 ys 3), .int .u8 (p8 ys 5), .int .u16 (p16 ys 6), .int .u16 (p16 ys 8), .int .u8 (p8 ys 10), .int .u16 (p16 ys 11)]), .inl (.nilIface)][i]?.getD (.inl undef)) v w') (by kernel_rfl) ?_ (by intro i v w1 w2 _ hE hF; exact FactP.keep hE hF) ?_ ⟨⟨rfl, ?_⟩, ⟨rfl, ?_⟩, ⟨rfl, ?_⟩, ⟨rfl, ?_⟩, ⟨rfl, ?_⟩, ⟨rfl, ?_⟩, ⟨rfl, ?_⟩, ⟨rfl, ?_⟩, ⟨rfl, ?_⟩, ⟨rfl, ?_⟩, ⟨rfl, ?_⟩, ⟨rfl, ?_⟩, ⟨rfl, ?_⟩, ⟨rfl, ?_⟩, ⟨rfl, ?_⟩, ⟨rfl, ?_⟩, ⟨rfl, ?_⟩, ⟨rfl, ?_⟩, ⟨rfl, ?_⟩, ⟨rfl, ?_⟩, ⟨rfl, ?_⟩, ⟨rfl, ?_⟩, ⟨rfl, ?_⟩, ⟨rfl, ?_⟩, ⟨rfl, ?_⟩, ⟨rfl, ?_⟩, ⟨rfl, ?_⟩, ⟨rfl, ?_⟩, ⟨rfl, ?_⟩, ⟨rfl, ?_⟩, trivial⟩ ?_
  · intro w1 w2 h1 hE; exact h1.trans (hE.mono h1.size)
  · exact (Below.refl _ _).drew
  · intro a w' K hB hd hs hK; have d4 : a.tmps.getD 4 undef = .int .u16 512 := hs 4 rfl; clear hd hs; go_simp; exact hK _ _ rfl (Below.refl _ _)
  · intro a w' K hB hd hs hK; have d0 : a.tmps.getD 0 undef = .slice (some ⟨g, 0, none⟩) 13 c := hs 0 rfl; clear hd hs; go_simp; exact hK _ _ rfl (Below.refl _ _)
  · intro a w' K hB hd hs hK; have d24 : a.tmps.getD 24 undef = .slice (some ⟨g, 0, none⟩) 13 c := hd 1 rfl; clear hd hs; go_simp; exact hK _ _ rfl (Below.refl _ _)
  · intro a w' K hB hd hs hK; have d25 : a.tmps.getD 25 undef = .pointer (some ⟨g, 2, none⟩) := hd 2 rfl; clear hd hs; have hcell : w'.cell? ⟨g, 2, none⟩ = some (.int .u8 (p8 ys 2)) := (HS1.out.below hB hg1) 2 (by omega); go_simp; exact hK _ _ rfl (Below.refl _ _)
  · intro a w' K hB hd hs hK; skip; clear hd hs; go_simp; exact hK _ _ rfl (Below.refl _ _)
  · intro a w' K hB hd hs hK; have d0 : a.tmps.getD 0 undef = .slice (some ⟨g, 0, none⟩) 13 c := hs 0 rfl; clear hd hs; go_simp; exact hK _ _ rfl (Below.refl _ _)
  · intro a w' K hB hd hs hK; have d28 : a.tmps.getD 28 undef = .slice (some ⟨g, 0, none⟩) 13 c := hd 5 rfl; clear hd hs; go_simp; exact hK _ _ rfl (Below.refl _ _)
  · intro a w' K hB hd hs hK; have d27 : a.tmps.getD 27 undef = .agg #[] := hd 4 rfl; have d29 : a.tmps.getD 29 undef = .slice (some ⟨g, 3, none⟩) 2 (c - 3) := hd 6 rfl; clear hd hs; go_simp; refine (r16_S g 3 _ ys _ (HS1.out.below hB hg1) HB.out (by omega) (by have := hB.size; omega)).mono ?_; rintro e w2 ⟨rfl, rfl⟩; exact hK _ _ rfl ((Below.refl _ _).alloc (Nat.le_refl _) _).drew
  · intro a w' K hB hd hs hK; have d0 : a.tmps.getD 0 undef = .slice (some ⟨g, 0, none⟩) 13 c := hs 0 rfl; clear hd hs; go_simp; exact hK _ _ rfl (Below.refl _ _)
  · intro a w' K hB hd hs hK; have d31 : a.tmps.getD 31 undef = .slice (some ⟨g, 0, none⟩) 13 c := hd 8 rfl; clear hd hs; go_simp; exact hK _ _ rfl (Below.refl _ _)
  · intro a w' K hB hd hs hK; have d32 : a.tmps.getD 32 undef = .pointer (some ⟨g, 5, none⟩) := hd 9 rfl; clear hd hs; have hcell : w'.cell? ⟨g, 5, none⟩ = some (.int .u8 (p8 ys 5)) := (HS1.out.below hB hg1) 5 (by omega); go_simp; exact hK _ _ rfl (Below.refl _ _)
  · intro a w' K hB hd hs hK; skip; clear hd hs; go_simp; exact hK _ _ rfl (Below.refl _ _)
  · intro a w' K hB hd hs hK; have d0 : a.tmps.getD 0 undef = .slice (some ⟨g, 0, none⟩) 13 c := hs 0 rfl; clear hd hs; go_simp; exact hK _ _ rfl (Below.refl _ _)
  · intro a w' K hB hd hs hK; have d35 : a.tmps.getD 35 undef = .slice (some ⟨g, 0, none⟩) 13 c := hd 12 rfl; clear hd hs; go_simp; exact hK _ _ rfl (Below.refl _ _)
  · intro a w' K hB hd hs hK; have d34 : a.tmps.getD 34 undef = .agg #[] := hd 11 rfl; have d36 : a.tmps.getD 36 undef = .slice (some ⟨g, 6, none⟩) 2 (c - 6) := hd 13 rfl; clear hd hs; go_simp; refine (r16_S g 6 _ ys _ (HS1.out.below hB hg1) HB.out (by omega) (by have := hB.size; omega)).mono ?_; rintro e w2 ⟨rfl, rfl⟩; exact hK _ _ rfl ((Below.refl _ _).alloc (Nat.le_refl _) _).drew
  · intro a w' K hB hd hs hK; skip; clear hd hs; go_simp; exact hK _ _ rfl (Below.refl _ _)
  · intro a w' K hB hd hs hK; have d0 : a.tmps.getD 0 undef = .slice (some ⟨g, 0, none⟩) 13 c := hs 0 rfl; clear hd hs; go_simp; exact hK _ _ rfl (Below.refl _ _)
  · intro a w' K hB hd hs hK; have d39 : a.tmps.getD 39 undef = .slice (some ⟨g, 0, none⟩) 13 c := hd 16 rfl; clear hd hs; go_simp; exact hK _ _ rfl (Below.refl _ _)
  · intro a w' K hB hd hs hK; have d38 : a.tmps.getD 38 undef = .agg #[] := hd 15 rfl; have d40 : a.tmps.getD 40 undef = .slice (some ⟨g, 8, none⟩) 2 (c - 8) := hd 17 rfl; clear hd hs; go_simp; refine (r16_S g 8 _ ys _ (HS1.out.below hB hg1) HB.out (by omega) (by have := hB.size; omega)).mono ?_; rintro e w2 ⟨rfl, rfl⟩; exact hK _ _ rfl ((Below.refl _ _).alloc (Nat.le_refl _) _).drew
  · intro a w' K hB hd hs hK; have d0 : a.tmps.getD 0 undef = .slice (some ⟨g, 0, none⟩) 13 c := hs 0 rfl; clear hd hs; go_simp; exact hK _ _ rfl (Below.refl _ _)
  · intro a w' K hB hd hs hK; have d42 : a.tmps.getD 42 undef = .slice (some ⟨g, 0, none⟩) 13 c := hd 19 rfl; clear hd hs; go_simp; exact hK _ _ rfl (Below.refl _ _)
  · intro a w' K hB hd hs hK; have d43 : a.tmps.getD 43 undef = .pointer (some ⟨g, 10, none⟩) := hd 20 rfl; clear hd hs; have hcell : w'.cell? ⟨g, 10, none⟩ = some (.int .u8 (p8 ys 10)) := (HS1.out.below hB hg1) 10 (by omega); go_simp; exact hK _ _ rfl (Below.refl _ _)
  · intro a w' K hB hd hs hK; skip; clear hd hs; go_simp; exact hK _ _ rfl (Below.refl _ _)
  · intro a w' K hB hd hs hK; have d0 : a.tmps.getD 0 undef = .slice (some ⟨g, 0, none⟩) 13 c := hs 0 rfl; clear hd hs; go_simp; exact hK _ _ rfl (Below.refl _ _)
  · intro a w' K hB hd hs hK; have d46 : a.tmps.getD 46 undef = .slice (some ⟨g, 0, none⟩) 13 c := hd 23 rfl; clear hd hs; go_simp; exact hK _ _ rfl (Below.refl _ _)
  · intro a w' K hB hd hs hK; have d45 : a.tmps.getD 45 undef = .agg #[] := hd 22 rfl; have d47 : a.tmps.getD 47 undef = .slice (some ⟨g, 11, none⟩) 2 (c - 11) := hd 24 rfl; clear hd hs; go_simp; refine (r16_S g 11 _ ys _ (HS1.out.below hB hg1) HB.out (by omega) (by have := hB.size; omega)).mono ?_; rintro e w2 ⟨rfl, rfl⟩; exact hK _ _ rfl ((Below.refl _ _).alloc (Nat.le_refl _) _).drew
  · intro a w' K hB hd hs hK; have d23 : a.tmps.getD 23 undef = .int .u16 512 := hd 0 rfl; have d26 : a.tmps.getD 26 undef = .int .u8 (p8 ys 2) := hd 3 rfl; have d30 : a.tmps.getD 30 undef = .int .u16 (p16 ys 3) := hd 7 rfl; have d33 : a.tmps.getD 33 undef = .int .u8 (p8 ys 5) := hd 10 rfl; have d37 : a.tmps.getD 37 undef = .int .u16 (p16 ys 6) := hd 14 rfl; have d41 : a.tmps.getD 41 undef = .int .u16 (p16 ys 8) := hd 18 rfl; have d44 : a.tmps.getD 44 undef = .int .u8 (p8 ys 10) := hd 21 rfl; have d48 : a.tmps.getD 48 undef = .int .u16 (p16 ys 11) := hd 25 rfl; clear hd hs; have e23 := d23; rw [Array.getD_eq_getD_getElem?] at e23; have e26 := d26; rw [Array.getD_eq_getD_getElem?] at e26; have e30 := d30; rw [Array.getD_eq_getD_getElem?] at e30; have e33 := d33; rw [Array.getD_eq_getD_getElem?] at e33; have e37 := d37; rw [Array.getD_eq_getD_getElem?] at e37; have e41 := d41; rw [Array.getD_eq_getD_getElem?] at e41; have e44 := d44; rw [Array.getD_eq_getD_getElem?] at e44; have e48 := d48; rw [Array.getD_eq_getD_getElem?] at e48; go_simp; exact hK _ _ rfl (Below.refl _ _)
  · intro a w' K hB hd hs hK; have d49 : a.tmps.getD 49 undef = .agg #[.int .u16 512, .int .u8 (p8 ys 2), .int .u16 (p16 ys 3), .int .u8 (p8 ys 5), .int .u16 (p16 ys 6), .int .u16 (p16 ys 8), .int .u8 (p8 ys 10), .int .u16 (p16 ys 11)] := hd 26 rfl; clear hd hs; go_simp; exact hK (.pointer (some ⟨w'.heap.size, 0, none⟩)) (w'.alloc (.cells #[.int .u16 512, .int .u8 (p8 ys 2), .int .u16 (p16 ys 3), .int .u8 (p8 ys 5), .int .u16 (p16 ys 6), .int .u16 (p16 ys 8), .int .u8 (p8 ys 10), .int .u16 (p16 ys 11)] 62)) ⟨w'.heap.size, rfl, by simp [go_sem], by simp, hB.size⟩ ((Below.refl _ _).alloc (Nat.le_refl _) _)
  · intro a w' K hB hd hs hK; obtain ⟨g50, d50, c50, z50⟩ : ∃ g, a.tmps.getD 50 undef = .pointer (some ⟨g, 0, none⟩) ∧ blkD w' g = #[.int .u16 512, .int .u8 (p8 ys 2), .int .u16 (p16 ys 3), .int .u8 (p8 ys 5), .int .u16 (p16 ys 6), .int .u16 (p16 ys 8), .int .u8 (p8 ys 10), .int .u16 (p16 ys 11)] ∧ 0 < (#[.int .u16 512, .int .u8 (p8 ys 2), .int .u16 (p16 ys 3), .int .u8 (p8 ys 5), .int .u16 (p16 ys 6), .int .u16 (p16 ys 8), .int .u8 (p8 ys 10), .int .u16 (p16 ys 11)]).size ∧ W1.heap.size ≤ g := hd 27 rfl; clear hd hs; go_simp; exact hK _ _ ⟨g50, rfl, c50, z50⟩ (Below.refl _ _)
  · intro a w' K hB hd hs hK; skip; clear hd hs; go_simp; exact hK _ _ rfl (Below.refl _ _)
  · intro a W8 hB8 hsz hdf hf hs
    obtain ⟨p2, hp2, hc2, _, hq2⟩ : ∃ g, a.tmps.getD 2 undef = .pointer (some ⟨g, 0, none⟩) ∧ blkD W8 g = #[.int .u16 512, .int .u8 (p8 ys 2), .int .u16 (p16 ys 3), .int .u8 (p8 ys 5), .int .u16 (p16 ys 6), .int .u16 (p16 ys 8), .int .u8 (p8 ys 10), .int .u16 (p16 ys 11)] ∧ 0 < (#[.int .u16 512, .int .u8 (p8 ys 2), .int .u16 (p16 ys 3), .int .u8 (p8 ys 5), .int .u16 (p16 ys 6), .int .u16 (p16 ys 8), .int .u8 (p8 ys 10), .int .u16 (p16 ys 11)]).size ∧ W1.heap.size ≤ g := hf 28 rfl
    have hact : a = ⟨#[.slice (some ⟨g, 0, none⟩) 13 c, sl a 1, .pointer (some ⟨p2, 0, none⟩), .nilIface, .int .u16 512, sl a 5, sl a 6, sl a 7, sl a 8, sl a 9, sl a 10, sl a 11, sl a 12, sl a 13, sl a 14, sl a 15, sl a 16, sl a 17, sl a 18, sl a 19, sl a 20, sl a 21, sl a 22, sl a 23, sl a 24, sl a 25, sl a 26, sl a 27, sl a 28, sl a 29, sl a 30, sl a 31, sl a 32, sl a 33, sl a 34, sl a 35, sl a 36, sl a 37, sl a 38, sl a 39, sl a 40, sl a 41, sl a 42, sl a 43, sl a 44, sl a 45, sl a 46, sl a 47, sl a 48, sl a 49, sl a 50], []⟩ := act_of (by rw [hsz]; rfl) hdf ⟨hs 0 rfl, rfl, hp2, hf 29 rfl, hs 4 rfl, rfl, rfl, rfl, rfl, rfl, rfl, rfl, rfl, rfl, rfl, rfl, rfl, rfl, rfl, rfl, rfl, rfl, rfl, rfl, rfl, rfl, rfl, rfl, rfl, rfl, rfl, rfl, rfl, rfl, rfl, rfl, rfl, rfl, rfl, rfl, rfl, rfl, rfl, rfl, rfl, rfl, rfl, rfl, rfl, rfl, rfl, trivial⟩
    clear hsz hdf hf hs
    rw [hact]
    clear hact
    have HW8 := Lib.hid hB8
    clear hB8
    go_wp2
    go_ret2
    exact ⟨p2, rfl, hc2, by have := HB1.out.size; omega, HB1.out.trans (HW8.out.mono HB1.out.size)⟩

set_option maxRecDepth 100000 in
set_option maxHeartbeats 4000000 in
theorem fb3_any (g c : Nat) (ys : List Int) (w : World) (hS : Bys w g ys) (hB : Byt ys) (hl : 25 ≤ ys.length) (hc : 25 ≤ c) (hg : g < w.heap.size) (h512 : p16 ys 0 = 512) :
    Calls Try.prog 19 #[.slice (some ⟨g, 0, none⟩) 25 c] w fun e w' => ∃ g3 g2, e = .returned (.tuple #[.pointer (some ⟨g3, 0, none⟩), .nilIface]) ∧ blkD w' g3 = #[.pointer (some ⟨g2, 0, none⟩), .int .u16 (p16 ys 13), .int .u16 (p16 ys 15), .int .u32 (p32 ys 17), .int .u32 (p32 ys 21)] ∧ blkD w' g2 = #[.int .u16 512, .int .u8 (p8 ys 2), .int .u16 (p16 ys 3), .int .u8 (p8 ys 5), .int .u16 (p16 ys 6), .int .u16 (p16 ys 8), .int .u8 (p8 ys 10), .int .u16 (p16 ys 11)] ∧ w.heap.size ≤ g3 ∧ w.heap.size ≤ g2 ∧ Below w.heap.size w w' := by
  have HS := Lib.hid hS
  have HB := Lib.hid hB
  clear hS hB
  have l13 : (13 : Int) ≤ (c : Int) := by omega
  have n13 : ¬ c = 13 := by omega
  have l15 : (15 : Int) ≤ (c : Int) := by omega
  have n15 : ¬ c = 15 := by omega
  have l17 : (17 : Int) ≤ (c : Int) := by omega
  have n17 : ¬ c = 17 := by omega
  have l21 : (21 : Int) ≤ (c : Int) := by omega
  have n21 : ¬ c = 21 := by omega
  have l25 : (25 : Int) ≤ (c : Int) := by omega
  go_enter Try.func19, Try.ntmps19
  go_wp2_with fail
  refine (fb2_any g c ys w HS.out HB.out (by omega) (by omega) hg h512).mono ?_
  rintro e W1 ⟨g2, rfl, hc2, hw2, hb1⟩
  have HC2 := Lib.hid hc2
  have hg2 : g2 < W1.heap.size := lt_blkD (i := 0) (by rw [hc2]; simp)
  have HS1 := Lib.hid (HS.out.below hb1 hg)
  have hg1 : g < W1.heap.size := by have := hb1.size; omega
  have HB1 := Lib.hid hb1
  clear hc2 hb1
  go_wp2
  refine wp_region_met (by kernel_rfl) (fun w' => Below W1.heap.size W1 w') (fun w1 w2 => Below w1.heap.size w1 w2) (fun i v w' => FactP W1.heap.size ([.inl (.pointer (some ⟨g2, 0, none⟩)), .inl (.agg #[]), .inl (.slice (some ⟨g, 0, none⟩) 25 c), .inl (.slice (some ⟨g, 13, none⟩) 2 (c - 13)), .inl (.int .u16 (p16 ys 13)), .inl (.agg #[]), .inl (.slice (some ⟨g, 0, none⟩) 25 c), .inl (.slice (some ⟨g, 15, none⟩) 2 (c - 15)), .inl (.int .u16 (p16 ys 15)), .inl (.agg #[]), .inl (.slice (some ⟨g, 0, none⟩) 25 c), .inl (.slice (some ⟨g, 17, none⟩) 4 (c - 17)), .inl (.int .u32 (p32 ys 17)), .inl (.agg #[]), .inl (.slice (some ⟨g, 0, none⟩) 25 c), .inl (.slice (some ⟨g, 21, none⟩) 4 (c - 21)), .inl (.int .u32 (p32 ys 21)), .inl (.agg #[.pointer (some ⟨g2, 0, none⟩), .int .u16 (p16 ys 13), .int .u16 (p16 ys 15), .int .u32 (p32 ys 17), .int .u32 (p32 ys 21)]), .inr (#[.pointer (some ⟨g2, 0, none⟩), .int .u16 (p16 ys 13), .int .u16 (p16 ys 15), .int .u32 (p32 ys 17), .int .u32 (p32 ys 21)]), .inr (#[.pointer (some ⟨g2, 0, none⟩), .int .u16 (p16 ys 13), .int .u16 (p16 ys 15), .int .u32 (p32 ys 17), .int .u32 (p32 ys 21)]), .inl (.nilIface)][i]?.getD (.inl undef)) v w') (by kernel_rfl) ?_ (by intro i v w1 w2 _ hE hF; exact FactP.keep hE hF) ?_ ⟨⟨rfl, ?_⟩, ⟨rfl, ?_⟩, ⟨rfl, ?_⟩, ⟨rfl, ?_⟩, ⟨rfl, ?_⟩, ⟨rfl, ?_⟩, ⟨rfl, ?_⟩, ⟨rfl, ?_⟩, ⟨rfl, ?_⟩, ⟨rfl, ?_⟩, ⟨rfl, ?_⟩, ⟨rfl, ?_⟩, ⟨rfl, ?_⟩, ⟨rfl, ?_⟩, ⟨rfl, ?_⟩, ⟨rfl, ?_⟩, ⟨rfl, ?_⟩, ⟨rfl, ?_⟩, ⟨rfl, ?_⟩, ⟨rfl, ?_⟩, ⟨rfl, ?_⟩, trivial⟩ ?_
  · intro w1 w2 h1 hE; exact h1.trans (hE.mono h1.size)
  · exact (Below.refl _ _).drew
  · intro a w' K hB hd hs hK; have d4 : a.tmps.getD 4 undef = .pointer (some ⟨g2, 0, none⟩) := hs 4 rfl; clear hd hs; go_simp; exact hK _ _ rfl (Below.refl _ _)
  · intro a w' K hB hd hs hK; skip; clear hd hs; go_simp; exact hK _ _ rfl (Below.refl _ _)
  · intro a w' K hB hd hs hK; have d0 : a.tmps.getD 0 undef = .slice (some ⟨g, 0, none⟩) 25 c := hs 0 rfl; clear hd hs; go_simp; exact hK _ _ rfl (Below.refl _ _)
  · intro a w' K hB hd hs hK; have d21 : a.tmps.getD 21 undef = .slice (some ⟨g, 0, none⟩) 25 c := hd 2 rfl; clear hd hs; go_simp; exact hK _ _ rfl (Below.refl _ _)
  · intro a w' K hB hd hs hK; have d20 : a.tmps.getD 20 undef = .agg #[] := hd 1 rfl; have d22 : a.tmps.getD 22 undef = .slice (some ⟨g, 13, none⟩) 2 (c - 13) := hd 3 rfl; clear hd hs; go_simp; refine (r16_S g 13 _ ys _ (HS1.out.below hB hg1) HB.out (by omega) (by have := hB.size; omega)).mono ?_; rintro e w2 ⟨rfl, rfl⟩; exact hK _ _ rfl ((Below.refl _ _).alloc (Nat.le_refl _) _).drew
  · intro a w' K hB hd hs hK; skip; clear hd hs; go_simp; exact hK _ _ rfl (Below.refl _ _)
  · intro a w' K hB hd hs hK; have d0 : a.tmps.getD 0 undef = .slice (some ⟨g, 0, none⟩) 25 c := hs 0 rfl; clear hd hs; go_simp; exact hK _ _ rfl (Below.refl _ _)
  · intro a w' K hB hd hs hK; have d25 : a.tmps.getD 25 undef = .slice (some ⟨g, 0, none⟩) 25 c := hd 6 rfl; clear hd hs; go_simp; exact hK _ _ rfl (Below.refl _ _)
  · intro a w' K hB hd hs hK; have d24 : a.tmps.getD 24 undef = .agg #[] := hd 5 rfl; have d26 : a.tmps.getD 26 undef = .slice (some ⟨g, 15, none⟩) 2 (c - 15) := hd 7 rfl; clear hd hs; go_simp; refine (r16_S g 15 _ ys _ (HS1.out.below hB hg1) HB.out (by omega) (by have := hB.size; omega)).mono ?_; rintro e w2 ⟨rfl, rfl⟩; exact hK _ _ rfl ((Below.refl _ _).alloc (Nat.le_refl _) _).drew
  · intro a w' K hB hd hs hK; skip; clear hd hs; go_simp; exact hK _ _ rfl (Below.refl _ _)
  · intro a w' K hB hd hs hK; have d0 : a.tmps.getD 0 undef = .slice (some ⟨g, 0, none⟩) 25 c := hs 0 rfl; clear hd hs; go_simp; exact hK _ _ rfl (Below.refl _ _)
  · intro a w' K hB hd hs hK; have d29 : a.tmps.getD 29 undef = .slice (some ⟨g, 0, none⟩) 25 c := hd 10 rfl; clear hd hs; go_simp; exact hK _ _ rfl (Below.refl _ _)
  · intro a w' K hB hd hs hK; have d28 : a.tmps.getD 28 undef = .agg #[] := hd 9 rfl; have d30 : a.tmps.getD 30 undef = .slice (some ⟨g, 17, none⟩) 4 (c - 17) := hd 11 rfl; clear hd hs; go_simp; refine (r32_S g 17 _ ys _ (HS1.out.below hB hg1) HB.out (by omega) (by have := hB.size; omega)).mono ?_; rintro e w2 ⟨rfl, rfl⟩; exact hK _ _ rfl ((Below.refl _ _).alloc (Nat.le_refl _) _).drew
  · intro a w' K hB hd hs hK; skip; clear hd hs; go_simp; exact hK _ _ rfl (Below.refl _ _)
  · intro a w' K hB hd hs hK; have d0 : a.tmps.getD 0 undef = .slice (some ⟨g, 0, none⟩) 25 c := hs 0 rfl; clear hd hs; go_simp; exact hK _ _ rfl (Below.refl _ _)
  · intro a w' K hB hd hs hK; have d33 : a.tmps.getD 33 undef = .slice (some ⟨g, 0, none⟩) 25 c := hd 14 rfl; clear hd hs; go_simp; exact hK _ _ rfl (Below.refl _ _)
  · intro a w' K hB hd hs hK; have d32 : a.tmps.getD 32 undef = .agg #[] := hd 13 rfl; have d34 : a.tmps.getD 34 undef = .slice (some ⟨g, 21, none⟩) 4 (c - 21) := hd 15 rfl; clear hd hs; go_simp; refine (r32_S g 21 _ ys _ (HS1.out.below hB hg1) HB.out (by omega) (by have := hB.size; omega)).mono ?_; rintro e w2 ⟨rfl, rfl⟩; exact hK _ _ rfl ((Below.refl _ _).alloc (Nat.le_refl _) _).drew
  · intro a w' K hB hd hs hK; have d19 : a.tmps.getD 19 undef = .pointer (some ⟨g2, 0, none⟩) := hd 0 rfl; have d23 : a.tmps.getD 23 undef = .int .u16 (p16 ys 13) := hd 4 rfl; have d27 : a.tmps.getD 27 undef = .int .u16 (p16 ys 15) := hd 8 rfl; have d31 : a.tmps.getD 31 undef = .int .u32 (p32 ys 17) := hd 12 rfl; have d35 : a.tmps.getD 35 undef = .int .u32 (p32 ys 21) := hd 16 rfl; clear hd hs; have e19 := d19; rw [Array.getD_eq_getD_getElem?] at e19; have e23 := d23; rw [Array.getD_eq_getD_getElem?] at e23; have e27 := d27; rw [Array.getD_eq_getD_getElem?] at e27; have e31 := d31; rw [Array.getD_eq_getD_getElem?] at e31; have e35 := d35; rw [Array.getD_eq_getD_getElem?] at e35; go_simp; exact hK _ _ rfl (Below.refl _ _)
  · intro a w' K hB hd hs hK; have d36 : a.tmps.getD 36 undef = .agg #[.pointer (some ⟨g2, 0, none⟩), .int .u16 (p16 ys 13), .int .u16 (p16 ys 15), .int .u32 (p32 ys 17), .int .u32 (p32 ys 21)] := hd 17 rfl; clear hd hs; go_simp; exact hK (.pointer (some ⟨w'.heap.size, 0, none⟩)) (w'.alloc (.cells #[.pointer (some ⟨g2, 0, none⟩), .int .u16 (p16 ys 13), .int .u16 (p16 ys 15), .int .u32 (p32 ys 17), .int .u32 (p32 ys 21)] 67)) ⟨w'.heap.size, rfl, by simp [go_sem], by simp, hB.size⟩ ((Below.refl _ _).alloc (Nat.le_refl _) _)
  · intro a w' K hB hd hs hK; obtain ⟨g37, d37, c37, z37⟩ : ∃ g, a.tmps.getD 37 undef = .pointer (some ⟨g, 0, none⟩) ∧ blkD w' g = #[.pointer (some ⟨g2, 0, none⟩), .int .u16 (p16 ys 13), .int .u16 (p16 ys 15), .int .u32 (p32 ys 17), .int .u32 (p32 ys 21)] ∧ 0 < (#[.pointer (some ⟨g2, 0, none⟩), .int .u16 (p16 ys 13), .int .u16 (p16 ys 15), .int .u32 (p32 ys 17), .int .u32 (p32 ys 21)]).size ∧ W1.heap.size ≤ g := hd 18 rfl; clear hd hs; go_simp; exact hK _ _ ⟨g37, rfl, c37, z37⟩ (Below.refl _ _)
  · intro a w' K hB hd hs hK; skip; clear hd hs; go_simp; exact hK _ _ rfl (Below.refl _ _)
  · intro a W8 hB8 hsz hdf hf hs
    obtain ⟨p2, hp2, hc2, _, hq2⟩ : ∃ g, a.tmps.getD 2 undef = .pointer (some ⟨g, 0, none⟩) ∧ blkD W8 g = #[.pointer (some ⟨g2, 0, none⟩), .int .u16 (p16 ys 13), .int .u16 (p16 ys 15), .int .u32 (p32 ys 17), .int .u32 (p32 ys 21)] ∧ 0 < (#[.pointer (some ⟨g2, 0, none⟩), .int .u16 (p16 ys 13), .int .u16 (p16 ys 15), .int .u32 (p32 ys 17), .int .u32 (p32 ys 21)]).size ∧ W1.heap.size ≤ g := hf 19 rfl
    have hact : a = ⟨#[.slice (some ⟨g, 0, none⟩) 25 c, sl a 1, .pointer (some ⟨p2, 0, none⟩), .nilIface, .pointer (some ⟨g2, 0, none⟩), .nilIface, sl a 6, sl a 7, sl a 8, sl a 9, sl a 10, sl a 11, sl a 12, sl a 13, sl a 14, sl a 15, sl a 16, sl a 17, sl a 18, sl a 19, sl a 20, sl a 21, sl a 22, sl a 23, sl a 24, sl a 25, sl a 26, sl a 27, sl a 28, sl a 29, sl a 30, sl a 31, sl a 32, sl a 33, sl a 34, sl a 35, sl a 36, sl a 37], []⟩ := act_of (by rw [hsz]; rfl) hdf ⟨hs 0 rfl, rfl, hp2, hf 20 rfl, hs 4 rfl, hs 5 rfl, rfl, rfl, rfl, rfl, rfl, rfl, rfl, rfl, rfl, rfl, rfl, rfl, rfl, rfl, rfl, rfl, rfl, rfl, rfl, rfl, rfl, rfl, rfl, rfl, rfl, rfl, rfl, rfl, rfl, rfl, rfl, rfl, trivial⟩
    clear hsz hdf hf hs
    rw [hact]
    clear hact
    have HW8 := Lib.hid hB8
    clear hB8
    go_wp2
    go_ret2
    exact ⟨p2, g2, rfl, hc2, (bblk HW8.out g2 hg2).trans HC2.out, by have := HB1.out.size; omega, hw2, HB1.out.trans (HW8.out.mono HB1.out.size)⟩
end Go.Proofs.Yteklgajjclldkaa
