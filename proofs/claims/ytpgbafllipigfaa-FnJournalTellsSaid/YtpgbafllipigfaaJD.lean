/- Walks of the reader of the journal's header. -/
import Derived.Test.YtpgbafllipigfaaJC
import Derived.Outline
import Derived.Test.YtpgbafllipigfaaInv
namespace Go.Proofs.Ytpgbafllipigfaa
open Go.RowKit
attribute [local go_sem ↓] Go.wp_at_zero Go.wp_at_succ
set_option linter.unusedVariables false

/-- a row's bytes lie in block g -/
def CellsC (w : World) (g : Nat) (C : Array Value) : Prop := ∀ i, i < 1024 → w.cell? ⟨g, i, none⟩ = some (.int .u8 (nb C i)) ∧ 0 ≤ nb C i ∧ nb C i < 256
theorem CellsC.below {w w' : World} {B g : Nat} {C : Array Value} (h : CellsC w g C) (hb : Below B w w') (hg : g < B) : CellsC w' g C := fun i hi =>
  ⟨(hb.cell (p := ⟨g, i, none⟩) hg).trans (h i hi).1, (h i hi).2⟩
theorem ru_C (g o c : Nat) (C : Array Value) (w : World) (hC : CellsC w g C) (ho : o + 3 < 1024) (hg : g < w.heap.size) :
    Calls Try.prog 23 #[.agg #[], .slice (some ⟨g, o, none⟩) 4 c] w fun e w' => e = .returned (.int .u32 (rd4 C o)) ∧ w' = (w.alloc (.cells #[] 57)).drew :=
  ru_any g o c (nb C o) (nb C (o + 1)) (nb C (o + 2)) (nb C (o + 3)) w (hC _ (by omega)).1 (hC _ (by omega)).1 (hC _ (by omega)).1 (hC _ (by omega)).1
    (hC o (by omega)).2.1 (hC o (by omega)).2.2 (hC (o + 1) (by omega)).2.1 (hC (o + 1) (by omega)).2.2 (hC (o + 2) (by omega)).2.1 (hC (o + 2) (by omega)).2.2 (hC (o + 3) (by omega)).2.1 (hC (o + 3) (by omega)).2.2 hg

/-- what is known of what an operation of a drawn region has left: its value; or that it points to a block of these cells -/
def Fact (b : Nat) : Sum Value (Array Value) → Value → World → Prop
  | .inl u, v, _ => v = u
  | .inr cs, v, w => ∃ g, v = .pointer (some ⟨g, 0, none⟩) ∧ blkD w g = cs ∧ 0 < cs.size ∧ b ≤ g
theorem Fact.keep {b : Nat} {f : Sum Value (Array Value)} {v : Value} {w w' : World} (hE : Below w.heap.size w w') (h : Fact b f v w) : Fact b f v w' := by
  cases f with
  | inl u => exact h
  | inr cs =>
    obtain ⟨g, e, hc, hz, hg⟩ := h
    exact ⟨g, e, (bblk hE g (blkD_lt (i := 0) (by rw [hc]; exact hz))).trans hc, hz, hg⟩

set_option maxRecDepth 100000 in
set_option maxHeartbeats 2000000 in
theorem hfb_any (g c : Nat) (C : Array Value) (w : World) (hC : CellsC w g C) (hg : g < w.heap.size) (hc : 1024 ≤ c) (hmag : rd4 C 0 = 3225106840) :
    Calls Try.prog 22 #[.slice (some ⟨g, 0, none⟩) 12 c] w fun e w' => ∃ gh, e = .returned (.tuple #[.pointer (some ⟨gh, 0, none⟩), .nilIface]) ∧ blkD w' gh = #[.int .u32 3225106840, .int .u32 (rd4 C 4), .int .u32 (rd4 C 8)] ∧ Below w.heap.size w w' := by
  have HC := Lib.hid hC
  have HM := Lib.hid hmag
  clear hC hmag
  have l4 : (4 : Int) ≤ (c : Int) := by omega
  have l8 : (8 : Int) ≤ (c : Int) := by omega
  have l12 : (12 : Int) ≤ (c : Int) := by omega
  have n4 : ¬ c = 4 := by omega
  have n8 : ¬ c = 8 := by omega
  go_enter Try.func22, Try.ntmps22
  go_wp2
  go_region_held3 (fun w' => CellsC w' g C) (first | (with_reducible assumption) | exact HC.out | (exact (HC.out.below (((Below.refl _ _).drew).alloc (by simp) _).drew hg)))
    (first | (go_at_call 23; refine (ru_C g 0 _ C _ ?_ (by omega) ?_).mono ?_; (with_reducible assumption); (simp [*]); rw [HM.out]; rintro e w1 ⟨rfl, rfl⟩))
  go_wp2
  refine wp_region_met (by kernel_rfl) (fun w' => Below w.heap.size w w') (fun w1 w2 => Below w1.heap.size w1 w2) (fun i v w' => Fact w.heap.size ([.inl (.int .u32 3225106840), .inl (.agg #[]), .inl (.slice (some ⟨g, 0, none⟩) 12 c), .inl (.slice (some ⟨g, 4, none⟩) 4 (c - 4)), .inl (.int .u32 (rd4 C 4)), .inl (.agg #[]), .inl (.slice (some ⟨g, 0, none⟩) 12 c), .inl (.slice (some ⟨g, 8, none⟩) 4 (c - 8)), .inl (.int .u32 (rd4 C 8)), .inl (.agg #[.int .u32 3225106840, .int .u32 (rd4 C 4), .int .u32 (rd4 C 8)]), .inr (#[.int .u32 3225106840, .int .u32 (rd4 C 4), .int .u32 (rd4 C 8)]), .inr (#[.int .u32 3225106840, .int .u32 (rd4 C 4), .int .u32 (rd4 C 8)]), .inl (.nilIface)][i]?.getD (.inl undef)) v w') (by kernel_rfl) ?_ (by intro i v w1 w2 _ hE hF; exact Fact.keep hE hF) ?_ ⟨⟨rfl, ?_⟩, ⟨rfl, ?_⟩, ⟨rfl, ?_⟩, ⟨rfl, ?_⟩, ⟨rfl, ?_⟩, ⟨rfl, ?_⟩, ⟨rfl, ?_⟩, ⟨rfl, ?_⟩, ⟨rfl, ?_⟩, ⟨rfl, ?_⟩, ⟨rfl, ?_⟩, ⟨rfl, ?_⟩, ⟨rfl, ?_⟩, trivial⟩ ?_
  · intro w1 w2 h1 hE; exact h1.trans (hE.mono h1.size)
  · exact (((Below.refl _ _).alloc (Nat.le_refl _) _).drew).drew.drew
  · intro a w' K hB hd hs hK; have d4 : a.tmps.getD 4 undef = .int .u32 3225106840 := hs 4 rfl; clear hd hs; go_simp; exact hK _ _ rfl (Below.refl _ _)
  · intro a w' K hB hd hs hK; skip; clear hd hs; go_simp; exact hK _ _ rfl (Below.refl _ _)
  · intro a w' K hB hd hs hK; have d0 : a.tmps.getD 0 undef = .slice (some ⟨g, 0, none⟩) 12 c := hs 0 rfl; clear hd hs; go_simp; exact hK _ _ rfl (Below.refl _ _)
  · intro a w' K hB hd hs hK; have d18 : a.tmps.getD 18 undef = .slice (some ⟨g, 0, none⟩) 12 c := hd 2 rfl; clear hd hs; go_simp; exact hK _ _ rfl (Below.refl _ _)
  · intro a w' K hB hd hs hK; have d17 : a.tmps.getD 17 undef = .agg #[] := hd 1 rfl; have d19 : a.tmps.getD 19 undef = .slice (some ⟨g, 4, none⟩) 4 (c - 4) := hd 3 rfl; clear hd hs; go_simp; refine (ru_C g 4 _ C _ (HC.out.below hB hg) (by omega) (by have := hB.size; omega)).mono ?_; rintro e w2 ⟨rfl, rfl⟩; exact hK _ _ rfl ((Below.refl _ _).alloc (Nat.le_refl _) _).drew
  · intro a w' K hB hd hs hK; skip; clear hd hs; go_simp; exact hK _ _ rfl (Below.refl _ _)
  · intro a w' K hB hd hs hK; have d0 : a.tmps.getD 0 undef = .slice (some ⟨g, 0, none⟩) 12 c := hs 0 rfl; clear hd hs; go_simp; exact hK _ _ rfl (Below.refl _ _)
  · intro a w' K hB hd hs hK; have d22 : a.tmps.getD 22 undef = .slice (some ⟨g, 0, none⟩) 12 c := hd 6 rfl; clear hd hs; go_simp; exact hK _ _ rfl (Below.refl _ _)
  · intro a w' K hB hd hs hK; have d21 : a.tmps.getD 21 undef = .agg #[] := hd 5 rfl; have d23 : a.tmps.getD 23 undef = .slice (some ⟨g, 8, none⟩) 4 (c - 8) := hd 7 rfl; clear hd hs; go_simp; refine (ru_C g 8 _ C _ (HC.out.below hB hg) (by omega) (by have := hB.size; omega)).mono ?_; rintro e w2 ⟨rfl, rfl⟩; exact hK _ _ rfl ((Below.refl _ _).alloc (Nat.le_refl _) _).drew
  · intro a w' K hB hd hs hK; have d16 : a.tmps.getD 16 undef = .int .u32 3225106840 := hd 0 rfl; have d20 : a.tmps.getD 20 undef = .int .u32 (rd4 C 4) := hd 4 rfl; have d24 : a.tmps.getD 24 undef = .int .u32 (rd4 C 8) := hd 8 rfl; clear hd hs; have e16 := d16; rw [Array.getD_eq_getD_getElem?] at e16; have e20 := d20; rw [Array.getD_eq_getD_getElem?] at e20; have e24 := d24; rw [Array.getD_eq_getD_getElem?] at e24; go_simp; exact hK _ _ rfl (Below.refl _ _)
  · intro a w' K hB hd hs hK; have d25 : a.tmps.getD 25 undef = .agg #[.int .u32 3225106840, .int .u32 (rd4 C 4), .int .u32 (rd4 C 8)] := hd 9 rfl; clear hd hs; go_simp; exact hK (.pointer (some ⟨w'.heap.size, 0, none⟩)) (w'.alloc (.cells #[.int .u32 3225106840, .int .u32 (rd4 C 4), .int .u32 (rd4 C 8)] 51)) ⟨w'.heap.size, rfl, by simp [go_sem], by simp, hB.size⟩ ((Below.refl _ _).alloc (Nat.le_refl _) _)
  · intro a w' K hB hd hs hK; obtain ⟨g26, d26, c26, z26⟩ : ∃ g, a.tmps.getD 26 undef = .pointer (some ⟨g, 0, none⟩) ∧ blkD w' g = #[.int .u32 3225106840, .int .u32 (rd4 C 4), .int .u32 (rd4 C 8)] ∧ 0 < (#[.int .u32 3225106840, .int .u32 (rd4 C 4), .int .u32 (rd4 C 8)]).size ∧ w.heap.size ≤ g := hd 10 rfl; clear hd hs; go_simp; exact hK _ _ ⟨g26, rfl, c26, z26⟩ (Below.refl _ _)
  · intro a w' K hB hd hs hK; skip; clear hd hs; go_simp; exact hK _ _ rfl (Below.refl _ _)
  · intro a W6 hB6 hsz hdf hf hs
    obtain ⟨p2, hp2, hc2, _, hq2⟩ : ∃ g, a.tmps.getD 2 undef = .pointer (some ⟨g, 0, none⟩) ∧ blkD W6 g = #[.int .u32 3225106840, .int .u32 (rd4 C 4), .int .u32 (rd4 C 8)] ∧ 0 < (#[.int .u32 3225106840, .int .u32 (rd4 C 4), .int .u32 (rd4 C 8)]).size ∧ w.heap.size ≤ g := hf 11 rfl
    have hact : a = ⟨#[.slice (some ⟨g, 0, none⟩) 12 c, sl a 1, .pointer (some ⟨p2, 0, none⟩), .nilIface, sl a 4, sl a 5, sl a 6, sl a 7, sl a 8, sl a 9, sl a 10, sl a 11, sl a 12, sl a 13, sl a 14, sl a 15, sl a 16, sl a 17, sl a 18, sl a 19, sl a 20, sl a 21, sl a 22, sl a 23, sl a 24, sl a 25, sl a 26], []⟩ := act_of (by rw [hsz]; rfl) hdf ⟨hs 0 rfl, rfl, hp2, hf 12 rfl, rfl, rfl, rfl, rfl, rfl, rfl, rfl, rfl, rfl, rfl, rfl, rfl, rfl, rfl, rfl, rfl, rfl, rfl, rfl, rfl, rfl, rfl, rfl, trivial⟩
    clear hsz hdf hf hs
    rw [hact]
    clear hact
    go_wp2
    go_ret2
    exact ⟨p2, rfl, hc2, hB6⟩
end Go.Proofs.Ytpgbafllipigfaa
