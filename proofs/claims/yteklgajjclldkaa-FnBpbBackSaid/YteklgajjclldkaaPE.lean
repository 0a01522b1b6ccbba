/- Walk of impl.bpbOf: several cells of one block are written, in whatever order. -/
import Derived.Test.YteklgajjclldkaaPD
namespace Go.Proofs.Yteklgajjclldkaa
open Go.RowKit
attribute [local go_sem ↓] Go.wp_at_zero Go.wp_at_succ
set_option linter.unusedVariables false

/-- cells of block g may have been written, each with its own value; nothing else -/
structure StB (g : Nat) (V : Nat → Option Value) (z1 z2 : World) : Prop where
  os : z2.os = z1.os
  tape : z2.tape = z1.tape
  output : z2.output = z1.output
  size : z2.heap.size = z1.heap.size
  oth : ∀ k : Nat, k ≠ g → z2.heap[k]? = z1.heap[k]?
  sz : (blkD z2 g).size = (blkD z1 g).size
  cell : ∀ i : Nat, (blkD z2 g)[i]? = (blkD z1 g)[i]? ∨ ∃ v, V i = some v ∧ (blkD z2 g)[i]? = some v
theorem StB.refl (g : Nat) (V : Nat → Option Value) (z : World) : StB g V z z := ⟨rfl, rfl, rfl, rfl, fun _ _ => rfl, rfl, fun _ => .inl rfl⟩
theorem StB.drew (g : Nat) (V : Nat → Option Value) (z : World) : StB g V z z.drew := ⟨rfl, rfl, rfl, rfl, fun _ _ => rfl, rfl, fun _ => .inl rfl⟩
theorem StB.trans {g : Nat} {V : Nat → Option Value} {a b c : World} (h : StB g V a b) (h' : StB g V b c) : StB g V a c :=
  ⟨h'.os.trans h.os, h'.tape.trans h.tape, h'.output.trans h.output, h'.size.trans h.size, fun k hk => (h'.oth k hk).trans (h.oth k hk), h'.sz.trans h.sz, fun i => by
    rcases h'.cell i with e | e
    · rw [e]; exact h.cell i
    · exact .inr e⟩
theorem StB.set {g : Nat} {V : Nat → Option Value} {z : World} {i : Nat} {v : Value} (hV : V i = some v) (hi : i < (blkD z g).size) : StB g V z (z.setCell ⟨g, i, none⟩ v) := by
  refine ⟨rfl, rfl, rfl, by simp, fun k hk => heap_setCell_other _ _ _ _ hk, by rw [blkD_setCell_same]; simp, fun j => ?_⟩
  rw [blkD_setCell_same]
  by_cases hj : i = j
  · subst hj
    refine .inr ⟨v, hV, ?_⟩
    simp [hi]
  · exact .inl (Array.getElem?_setIfInBounds_ne hj)
theorem StB.below {g B : Nat} {V : Nat → Option Value} {a z1 z2 : World} (h : StB g V z1 z2) (hb : Below B a z1) (hg : B ≤ g) : Below B a z2 :=
  hb.trans ⟨h.os, h.tape, h.output, by rw [h.size]; exact Nat.le_refl _, fun k hk => h.oth k (by omega)⟩
theorem StB.blk {g k : Nat} {V : Nat → Option Value} {z1 z2 : World} (h : StB g V z1 z2) (hk : k ≠ g) : blkD z2 k = blkD z1 k := by
  unfold blkD
  rw [h.oth k hk]
/-- all the cells are written -/
theorem StB.all {g : Nat} {V : Nat → Option Value} {z1 z2 : World} {C C' : Array Value} (h : StB g V z1 z2) (hC : blkD z1 g = C) (hf : ∀ i x, V i = some x → (blkD z2 g)[i]? = some x)
    (hs : C'.size = C.size) (hC' : ∀ i, i < C.size → C'[i]? = (match V i with | some x => some x | none => C[i]?)) : blkD z2 g = C' := by
  apply Array.ext_getElem?
  intro i
  by_cases hi : i < C.size
  · rw [hC' i hi]
    cases hv : V i with
    | some x => exact hf i x hv
    | none =>
      rcases h.cell i with e | ⟨x, e, _⟩
      · rw [e, hC]
      · rw [hv] at e; cases e
  · rw [Array.getElem?_eq_none (by rw [h.sz, hC]; omega), Array.getElem?_eq_none (by omega)]
/-- what an operation of such a region has left: its value; or that a cell is written -/
def FactQ (g : Nat) (V : Nat → Option Value) : Sum Value Nat → Value → World → Prop
  | .inl u, v, _ => v = u
  | .inr i, _, w => ∃ x, V i = some x ∧ (blkD w g)[i]? = some x
theorem FactQ.keep {g : Nat} {V : Nat → Option Value} {f : Sum Value Nat} {v : Value} {w w' : World} (hE : StB g V w w') (h : FactQ g V f v w) : FactQ g V f v w' := by
  cases f with
  | inl u => exact h
  | inr i =>
    obtain ⟨x, hx, hc⟩ := h
    refine ⟨x, hx, ?_⟩
    rcases hE.cell i with e | ⟨y, hy, e⟩
    · rw [e]; exact hc
    · rw [hx] at hy; cases hy; exact e

set_option maxRecDepth 100000 in
set_option maxHeartbeats 8000000 in
theorem iof_x (g gx : Nat) (k0 k1 k2 k3 k4 k5 k6 k7 k8 k9 k10 k11 k12 k13 k14 k15 k16 k17 k18 : Value) (x1 x2 x3 x4 x5 x6 x7 x8 : Int) (w : World) (hg : blkD w g = #[k0, k1, k2, k3, k4, k5, k6, k7, k8, k9, k10, k11, k12, k13, k14, k15, k16, k17, k18]) (hx : blkD w gx = #[.int .u16 x1, .int .u8 x2, .int .u16 x3, .int .u8 x4, .int .u16 x5, .int .u16 x6, .int .u8 x7, .int .u16 x8]) (hnegx : gx ≠ g) (a1 : 0 ≤ x1) (b1 : x1 ≤ 65535) (a2 : 0 ≤ x2) (b2 : x2 ≤ 255) (a3 : 0 ≤ x3) (b3 : x3 ≤ 65535) (a4 : 0 ≤ x4) (b4 : x4 ≤ 255) (a5 : 0 ≤ x5) (b5 : x5 ≤ 65535) (a6 : 0 ≤ x6) (b6 : x6 ≤ 65535) (a7 : 0 ≤ x7) (b7 : x7 ≤ 255) (a8 : 0 ≤ x8) (b8 : x8 ≤ 65535) :
    Calls Try.prog 18 #[.pointer (some ⟨g, 0, none⟩), .pointer (some ⟨gx, 0, none⟩), .pointer none] w fun e w' => e = .returned (.tuple #[]) ∧ blkD w' g = #[k0, .int .i64 x1, .int .i64 x2, .int .i64 x3, .int .i64 x4, .int .i64 x5, .int .i64 x6, .int .i64 x7, .int .i64 x8, k9, k10, k11, k12, k13, k14, k15, k16, k17, k18] ∧ (∀ B, B ≤ g → Below B w w') ∧ ∀ k, k ≠ g → blkD w' k = blkD w k := by
  have cgx0 : w.cell? ⟨gx, 0, none⟩ = some (.int .u16 x1) := by rw [cell_blkD 0 (by rw [hx]; simp), hx]; rfl
  have cgx1 : w.cell? ⟨gx, 1, none⟩ = some (.int .u8 x2) := by rw [cell_blkD 1 (by rw [hx]; simp), hx]; rfl
  have cgx2 : w.cell? ⟨gx, 2, none⟩ = some (.int .u16 x3) := by rw [cell_blkD 2 (by rw [hx]; simp), hx]; rfl
  have cgx3 : w.cell? ⟨gx, 3, none⟩ = some (.int .u8 x4) := by rw [cell_blkD 3 (by rw [hx]; simp), hx]; rfl
  have cgx4 : w.cell? ⟨gx, 4, none⟩ = some (.int .u16 x5) := by rw [cell_blkD 4 (by rw [hx]; simp), hx]; rfl
  have cgx5 : w.cell? ⟨gx, 5, none⟩ = some (.int .u16 x6) := by rw [cell_blkD 5 (by rw [hx]; simp), hx]; rfl
  have cgx6 : w.cell? ⟨gx, 6, none⟩ = some (.int .u8 x7) := by rw [cell_blkD 6 (by rw [hx]; simp), hx]; rfl
  have cgx7 : w.cell? ⟨gx, 7, none⟩ = some (.int .u16 x8) := by rw [cell_blkD 7 (by rw [hx]; simp), hx]; rfl
  have hnegx' : gx ≠ g := hnegx
  have hnegx : gx ≠ g := hnegx'
  have hz0 : (blkD w g).size = 19 := by rw [hg]; rfl
  have HG := Lib.hid hg
  have HX := Lib.hid hx
  clear hg hx
  go_enter Try.func18, Try.ntmps18
  go_wp2
  refine wp_region_met (by kernel_rfl) (fun w' => StB g (fun i => ([none, some (.int .i64 x1), some (.int .i64 x2), some (.int .i64 x3), some (.int .i64 x4), some (.int .i64 x5), some (.int .i64 x6), some (.int .i64 x7), some (.int .i64 x8), none, none, none, none, none, none, none, none, none, none] : List (Option Value)).getD i none) w w') (fun z1 z2 => StB g (fun i => ([none, some (.int .i64 x1), some (.int .i64 x2), some (.int .i64 x3), some (.int .i64 x4), some (.int .i64 x5), some (.int .i64 x6), some (.int .i64 x7), some (.int .i64 x8), none, none, none, none, none, none, none, none, none, none] : List (Option Value)).getD i none) z1 z2) (fun i v w' => FactQ g (fun i => ([none, some (.int .i64 x1), some (.int .i64 x2), some (.int .i64 x3), some (.int .i64 x4), some (.int .i64 x5), some (.int .i64 x6), some (.int .i64 x7), some (.int .i64 x8), none, none, none, none, none, none, none, none, none, none] : List (Option Value)).getD i none) (((.inl (.pointer (some ⟨g, 0, none⟩))) :: (.inl (.pointer (some ⟨g, 0, none⟩))) :: (.inl (.pointer (some ⟨g, 0, none⟩))) :: (.inl (.pointer (some ⟨g, 0, none⟩))) :: (.inl (.pointer (some ⟨g, 0, none⟩))) :: (.inl (.pointer (some ⟨g, 0, none⟩))) :: (.inl (.pointer (some ⟨g, 0, none⟩))) :: (.inl (.pointer (some ⟨g, 0, none⟩))) :: (.inl (.pointer (some ⟨gx, 0, none⟩))) :: (.inl (.pointer (some ⟨gx, 0, none⟩))) :: (.inl (.pointer (some ⟨gx, 0, none⟩))) :: (.inl (.int .u16 x1)) :: (.inl (.int .i64 x1)) :: (.inl (.pointer (some ⟨gx, 0, none⟩))) :: (.inl (.pointer (some ⟨gx, 0, none⟩))) :: (.inl (.pointer (some ⟨gx, 1, none⟩))) :: (.inl (.int .u8 x2)) :: (.inl (.int .i64 x2)) :: (.inl (.pointer (some ⟨gx, 0, none⟩))) :: (.inl (.pointer (some ⟨gx, 0, none⟩))) :: (.inl (.pointer (some ⟨gx, 2, none⟩))) :: (.inl (.int .u16 x3)) :: (.inl (.int .i64 x3)) :: (.inl (.pointer (some ⟨gx, 0, none⟩))) :: (.inl (.pointer (some ⟨gx, 0, none⟩))) :: (.inl (.pointer (some ⟨gx, 3, none⟩))) :: (.inl (.int .u8 x4)) :: (.inl (.int .i64 x4)) :: (.inl (.pointer (some ⟨gx, 0, none⟩))) :: (.inl (.pointer (some ⟨gx, 0, none⟩))) :: (.inl (.pointer (some ⟨gx, 4, none⟩))) :: (.inl (.int .u16 x5)) :: (.inl (.int .i64 x5)) :: (.inl (.pointer (some ⟨gx, 0, none⟩))) :: (.inl (.pointer (some ⟨gx, 0, none⟩))) :: (.inl (.pointer (some ⟨gx, 5, none⟩))) :: (.inl (.int .u16 x6)) :: (.inl (.int .i64 x6)) :: (.inl (.pointer (some ⟨gx, 0, none⟩))) :: (.inl (.pointer (some ⟨gx, 0, none⟩))) :: (.inl (.pointer (some ⟨gx, 6, none⟩))) :: (.inl (.int .u8 x7)) :: (.inl (.int .i64 x7)) :: (.inl (.pointer (some ⟨gx, 0, none⟩))) :: (.inl (.pointer (some ⟨gx, 0, none⟩))) :: (.inl (.pointer (some ⟨gx, 7, none⟩))) :: (.inl (.int .u16 x8)) :: (.inl (.int .i64 x8)) :: (.inl (.pointer (some ⟨g, 0, none⟩))) :: (.inl (.pointer (some ⟨g, 1, none⟩))) :: (.inr 1) :: (.inl (.pointer (some ⟨g, 0, none⟩))) :: (.inl (.pointer (some ⟨g, 2, none⟩))) :: (.inr 2) :: (.inl (.pointer (some ⟨g, 0, none⟩))) :: (.inl (.pointer (some ⟨g, 3, none⟩))) :: (.inr 3) :: (.inl (.pointer (some ⟨g, 0, none⟩))) :: (.inl (.pointer (some ⟨g, 4, none⟩))) :: (.inr 4) :: (.inl (.pointer (some ⟨g, 0, none⟩))) :: (.inl (.pointer (some ⟨g, 5, none⟩))) :: (.inr 5) :: (.inl (.pointer (some ⟨g, 0, none⟩))) :: (.inl (.pointer (some ⟨g, 6, none⟩))) :: (.inr 6) :: (.inl (.pointer (some ⟨g, 0, none⟩))) :: (.inl (.pointer (some ⟨g, 7, none⟩))) :: (.inr 7) :: (.inl (.pointer (some ⟨g, 0, none⟩))) :: (.inl (.pointer (some ⟨g, 8, none⟩))) :: (.inr 8) :: ([] : List (Sum Value Nat)))[i]?.getD (.inl undef)) v w') (by kernel_rfl) (fun z1 z2 h1 h2 => h1.trans h2) (by intro i v z1 z2 _ hE hF; exact FactQ.keep hE hF) (StB.drew _ _ _) ⟨⟨rfl, ?_⟩, ⟨rfl, ?_⟩, ⟨rfl, ?_⟩, ⟨rfl, ?_⟩, ⟨rfl, ?_⟩, ⟨rfl, ?_⟩, ⟨rfl, ?_⟩, ⟨rfl, ?_⟩, ⟨rfl, ?_⟩, ⟨rfl, ?_⟩, ⟨rfl, ?_⟩, ⟨rfl, ?_⟩, ⟨rfl, ?_⟩, ⟨rfl, ?_⟩, ⟨rfl, ?_⟩, ⟨rfl, ?_⟩, ⟨rfl, ?_⟩, ⟨rfl, ?_⟩, ⟨rfl, ?_⟩, ⟨rfl, ?_⟩, ⟨rfl, ?_⟩, ⟨rfl, ?_⟩, ⟨rfl, ?_⟩, ⟨rfl, ?_⟩, ⟨rfl, ?_⟩, ⟨rfl, ?_⟩, ⟨rfl, ?_⟩, ⟨rfl, ?_⟩, ⟨rfl, ?_⟩, ⟨rfl, ?_⟩, ⟨rfl, ?_⟩, ⟨rfl, ?_⟩, ⟨rfl, ?_⟩, ⟨rfl, ?_⟩, ⟨rfl, ?_⟩, ⟨rfl, ?_⟩, ⟨rfl, ?_⟩, ⟨rfl, ?_⟩, ⟨rfl, ?_⟩, ⟨rfl, ?_⟩, ⟨rfl, ?_⟩, ⟨rfl, ?_⟩, ⟨rfl, ?_⟩, ⟨rfl, ?_⟩, ⟨rfl, ?_⟩, ⟨rfl, ?_⟩, ⟨rfl, ?_⟩, ⟨rfl, ?_⟩, ⟨rfl, ?_⟩, ⟨rfl, ?_⟩, ⟨rfl, ?_⟩, ⟨rfl, ?_⟩, ⟨rfl, ?_⟩, ⟨rfl, ?_⟩, ⟨rfl, ?_⟩, ⟨rfl, ?_⟩, ⟨rfl, ?_⟩, ⟨rfl, ?_⟩, ⟨rfl, ?_⟩, ⟨rfl, ?_⟩, ⟨rfl, ?_⟩, ⟨rfl, ?_⟩, ⟨rfl, ?_⟩, ⟨rfl, ?_⟩, ⟨rfl, ?_⟩, ⟨rfl, ?_⟩, ⟨rfl, ?_⟩, ⟨rfl, ?_⟩, ⟨rfl, ?_⟩, ⟨rfl, ?_⟩, ⟨rfl, ?_⟩, ⟨rfl, ?_⟩, trivial⟩ ?_
  · intro a w' K hB hd hs hK; have d0 : a.tmps.getD 0 undef = .pointer (some ⟨g, 0, none⟩) := hs 0 rfl; clear hd hs; go_simp; exact hK _ _ rfl (StB.refl _ _ _)
  · intro a w' K hB hd hs hK; have d0 : a.tmps.getD 0 undef = .pointer (some ⟨g, 0, none⟩) := hs 0 rfl; clear hd hs; go_simp; exact hK _ _ rfl (StB.refl _ _ _)
  · intro a w' K hB hd hs hK; have d0 : a.tmps.getD 0 undef = .pointer (some ⟨g, 0, none⟩) := hs 0 rfl; clear hd hs; go_simp; exact hK _ _ rfl (StB.refl _ _ _)
  · intro a w' K hB hd hs hK; have d0 : a.tmps.getD 0 undef = .pointer (some ⟨g, 0, none⟩) := hs 0 rfl; clear hd hs; go_simp; exact hK _ _ rfl (StB.refl _ _ _)
  · intro a w' K hB hd hs hK; have d0 : a.tmps.getD 0 undef = .pointer (some ⟨g, 0, none⟩) := hs 0 rfl; clear hd hs; go_simp; exact hK _ _ rfl (StB.refl _ _ _)
  · intro a w' K hB hd hs hK; have d0 : a.tmps.getD 0 undef = .pointer (some ⟨g, 0, none⟩) := hs 0 rfl; clear hd hs; go_simp; exact hK _ _ rfl (StB.refl _ _ _)
  · intro a w' K hB hd hs hK; have d0 : a.tmps.getD 0 undef = .pointer (some ⟨g, 0, none⟩) := hs 0 rfl; clear hd hs; go_simp; exact hK _ _ rfl (StB.refl _ _ _)
  · intro a w' K hB hd hs hK; have d0 : a.tmps.getD 0 undef = .pointer (some ⟨g, 0, none⟩) := hs 0 rfl; clear hd hs; go_simp; exact hK _ _ rfl (StB.refl _ _ _)
  · intro a w' K hB hd hs hK; have d1 : a.tmps.getD 1 undef = .pointer (some ⟨gx, 0, none⟩) := hs 1 rfl; clear hd hs; go_simp; exact hK _ _ rfl (StB.refl _ _ _)
  · intro a w' K hB hd hs hK; have d52 : a.tmps.getD 52 undef = .pointer (some ⟨gx, 0, none⟩) := hd 8 rfl; clear hd hs; go_simp; exact hK _ _ rfl (StB.refl _ _ _)
  · intro a w' K hB hd hs hK; have d53 : a.tmps.getD 53 undef = .pointer (some ⟨gx, 0, none⟩) := hd 9 rfl; clear hd hs; go_simp; exact hK _ _ rfl (StB.refl _ _ _)
  · intro a w' K hB hd hs hK; have d54 : a.tmps.getD 54 undef = .pointer (some ⟨gx, 0, none⟩) := hd 10 rfl; clear hd hs; have hcell : w'.cell? ⟨gx, 0, none⟩ = some (.int .u16 x1) := (World.cell?_of_block (a := ⟨gx, 0, none⟩) (hB.oth gx hnegx)).trans cgx0; go_simp; exact hK _ _ rfl (StB.refl _ _ _)
  · intro a w' K hB hd hs hK; have d55 : a.tmps.getD 55 undef = .int .u16 x1 := hd 11 rfl; clear hd hs; go_simp; first | exact hK _ _ rfl (StB.refl _ _ _) | exact hK _ _ (congrArg (Value.int .i64) (IntWalk.i64_in _ (by omega))) (StB.refl _ _ _)
  · intro a w' K hB hd hs hK; have d1 : a.tmps.getD 1 undef = .pointer (some ⟨gx, 0, none⟩) := hs 1 rfl; clear hd hs; go_simp; exact hK _ _ rfl (StB.refl _ _ _)
  · intro a w' K hB hd hs hK; have d57 : a.tmps.getD 57 undef = .pointer (some ⟨gx, 0, none⟩) := hd 13 rfl; clear hd hs; go_simp; exact hK _ _ rfl (StB.refl _ _ _)
  · intro a w' K hB hd hs hK; have d58 : a.tmps.getD 58 undef = .pointer (some ⟨gx, 0, none⟩) := hd 14 rfl; clear hd hs; go_simp; exact hK _ _ rfl (StB.refl _ _ _)
  · intro a w' K hB hd hs hK; have d59 : a.tmps.getD 59 undef = .pointer (some ⟨gx, 1, none⟩) := hd 15 rfl; clear hd hs; have hcell : w'.cell? ⟨gx, 1, none⟩ = some (.int .u8 x2) := (World.cell?_of_block (a := ⟨gx, 1, none⟩) (hB.oth gx hnegx)).trans cgx1; go_simp; exact hK _ _ rfl (StB.refl _ _ _)
  · intro a w' K hB hd hs hK; have d60 : a.tmps.getD 60 undef = .int .u8 x2 := hd 16 rfl; clear hd hs; go_simp; first | exact hK _ _ rfl (StB.refl _ _ _) | exact hK _ _ (congrArg (Value.int .i64) (IntWalk.i64_in _ (by omega))) (StB.refl _ _ _)
  · intro a w' K hB hd hs hK; have d1 : a.tmps.getD 1 undef = .pointer (some ⟨gx, 0, none⟩) := hs 1 rfl; clear hd hs; go_simp; exact hK _ _ rfl (StB.refl _ _ _)
  · intro a w' K hB hd hs hK; have d62 : a.tmps.getD 62 undef = .pointer (some ⟨gx, 0, none⟩) := hd 18 rfl; clear hd hs; go_simp; exact hK _ _ rfl (StB.refl _ _ _)
  · intro a w' K hB hd hs hK; have d63 : a.tmps.getD 63 undef = .pointer (some ⟨gx, 0, none⟩) := hd 19 rfl; clear hd hs; go_simp; exact hK _ _ rfl (StB.refl _ _ _)
  · intro a w' K hB hd hs hK; have d64 : a.tmps.getD 64 undef = .pointer (some ⟨gx, 2, none⟩) := hd 20 rfl; clear hd hs; have hcell : w'.cell? ⟨gx, 2, none⟩ = some (.int .u16 x3) := (World.cell?_of_block (a := ⟨gx, 2, none⟩) (hB.oth gx hnegx)).trans cgx2; go_simp; exact hK _ _ rfl (StB.refl _ _ _)
  · intro a w' K hB hd hs hK; have d65 : a.tmps.getD 65 undef = .int .u16 x3 := hd 21 rfl; clear hd hs; go_simp; first | exact hK _ _ rfl (StB.refl _ _ _) | exact hK _ _ (congrArg (Value.int .i64) (IntWalk.i64_in _ (by omega))) (StB.refl _ _ _)
  · intro a w' K hB hd hs hK; have d1 : a.tmps.getD 1 undef = .pointer (some ⟨gx, 0, none⟩) := hs 1 rfl; clear hd hs; go_simp; exact hK _ _ rfl (StB.refl _ _ _)
  · intro a w' K hB hd hs hK; have d67 : a.tmps.getD 67 undef = .pointer (some ⟨gx, 0, none⟩) := hd 23 rfl; clear hd hs; go_simp; exact hK _ _ rfl (StB.refl _ _ _)
  · intro a w' K hB hd hs hK; have d68 : a.tmps.getD 68 undef = .pointer (some ⟨gx, 0, none⟩) := hd 24 rfl; clear hd hs; go_simp; exact hK _ _ rfl (StB.refl _ _ _)
  · intro a w' K hB hd hs hK; have d69 : a.tmps.getD 69 undef = .pointer (some ⟨gx, 3, none⟩) := hd 25 rfl; clear hd hs; have hcell : w'.cell? ⟨gx, 3, none⟩ = some (.int .u8 x4) := (World.cell?_of_block (a := ⟨gx, 3, none⟩) (hB.oth gx hnegx)).trans cgx3; go_simp; exact hK _ _ rfl (StB.refl _ _ _)
  · intro a w' K hB hd hs hK; have d70 : a.tmps.getD 70 undef = .int .u8 x4 := hd 26 rfl; clear hd hs; go_simp; first | exact hK _ _ rfl (StB.refl _ _ _) | exact hK _ _ (congrArg (Value.int .i64) (IntWalk.i64_in _ (by omega))) (StB.refl _ _ _)
  · intro a w' K hB hd hs hK; have d1 : a.tmps.getD 1 undef = .pointer (some ⟨gx, 0, none⟩) := hs 1 rfl; clear hd hs; go_simp; exact hK _ _ rfl (StB.refl _ _ _)
  · intro a w' K hB hd hs hK; have d72 : a.tmps.getD 72 undef = .pointer (some ⟨gx, 0, none⟩) := hd 28 rfl; clear hd hs; go_simp; exact hK _ _ rfl (StB.refl _ _ _)
  · intro a w' K hB hd hs hK; have d73 : a.tmps.getD 73 undef = .pointer (some ⟨gx, 0, none⟩) := hd 29 rfl; clear hd hs; go_simp; exact hK _ _ rfl (StB.refl _ _ _)
  · intro a w' K hB hd hs hK; have d74 : a.tmps.getD 74 undef = .pointer (some ⟨gx, 4, none⟩) := hd 30 rfl; clear hd hs; have hcell : w'.cell? ⟨gx, 4, none⟩ = some (.int .u16 x5) := (World.cell?_of_block (a := ⟨gx, 4, none⟩) (hB.oth gx hnegx)).trans cgx4; go_simp; exact hK _ _ rfl (StB.refl _ _ _)
  · intro a w' K hB hd hs hK; have d75 : a.tmps.getD 75 undef = .int .u16 x5 := hd 31 rfl; clear hd hs; go_simp; first | exact hK _ _ rfl (StB.refl _ _ _) | exact hK _ _ (congrArg (Value.int .i64) (IntWalk.i64_in _ (by omega))) (StB.refl _ _ _)
  · intro a w' K hB hd hs hK; have d1 : a.tmps.getD 1 undef = .pointer (some ⟨gx, 0, none⟩) := hs 1 rfl; clear hd hs; go_simp; exact hK _ _ rfl (StB.refl _ _ _)
  · intro a w' K hB hd hs hK; have d77 : a.tmps.getD 77 undef = .pointer (some ⟨gx, 0, none⟩) := hd 33 rfl; clear hd hs; go_simp; exact hK _ _ rfl (StB.refl _ _ _)
  · intro a w' K hB hd hs hK; have d78 : a.tmps.getD 78 undef = .pointer (some ⟨gx, 0, none⟩) := hd 34 rfl; clear hd hs; go_simp; exact hK _ _ rfl (StB.refl _ _ _)
  · intro a w' K hB hd hs hK; have d79 : a.tmps.getD 79 undef = .pointer (some ⟨gx, 5, none⟩) := hd 35 rfl; clear hd hs; have hcell : w'.cell? ⟨gx, 5, none⟩ = some (.int .u16 x6) := (World.cell?_of_block (a := ⟨gx, 5, none⟩) (hB.oth gx hnegx)).trans cgx5; go_simp; exact hK _ _ rfl (StB.refl _ _ _)
  · intro a w' K hB hd hs hK; have d80 : a.tmps.getD 80 undef = .int .u16 x6 := hd 36 rfl; clear hd hs; go_simp; first | exact hK _ _ rfl (StB.refl _ _ _) | exact hK _ _ (congrArg (Value.int .i64) (IntWalk.i64_in _ (by omega))) (StB.refl _ _ _)
  · intro a w' K hB hd hs hK; have d1 : a.tmps.getD 1 undef = .pointer (some ⟨gx, 0, none⟩) := hs 1 rfl; clear hd hs; go_simp; exact hK _ _ rfl (StB.refl _ _ _)
  · intro a w' K hB hd hs hK; have d82 : a.tmps.getD 82 undef = .pointer (some ⟨gx, 0, none⟩) := hd 38 rfl; clear hd hs; go_simp; exact hK _ _ rfl (StB.refl _ _ _)
  · intro a w' K hB hd hs hK; have d83 : a.tmps.getD 83 undef = .pointer (some ⟨gx, 0, none⟩) := hd 39 rfl; clear hd hs; go_simp; exact hK _ _ rfl (StB.refl _ _ _)
  · intro a w' K hB hd hs hK; have d84 : a.tmps.getD 84 undef = .pointer (some ⟨gx, 6, none⟩) := hd 40 rfl; clear hd hs; have hcell : w'.cell? ⟨gx, 6, none⟩ = some (.int .u8 x7) := (World.cell?_of_block (a := ⟨gx, 6, none⟩) (hB.oth gx hnegx)).trans cgx6; go_simp; exact hK _ _ rfl (StB.refl _ _ _)
  · intro a w' K hB hd hs hK; have d85 : a.tmps.getD 85 undef = .int .u8 x7 := hd 41 rfl; clear hd hs; go_simp; first | exact hK _ _ rfl (StB.refl _ _ _) | exact hK _ _ (congrArg (Value.int .i64) (IntWalk.i64_in _ (by omega))) (StB.refl _ _ _)
  · intro a w' K hB hd hs hK; have d1 : a.tmps.getD 1 undef = .pointer (some ⟨gx, 0, none⟩) := hs 1 rfl; clear hd hs; go_simp; exact hK _ _ rfl (StB.refl _ _ _)
  · intro a w' K hB hd hs hK; have d87 : a.tmps.getD 87 undef = .pointer (some ⟨gx, 0, none⟩) := hd 43 rfl; clear hd hs; go_simp; exact hK _ _ rfl (StB.refl _ _ _)
  · intro a w' K hB hd hs hK; have d88 : a.tmps.getD 88 undef = .pointer (some ⟨gx, 0, none⟩) := hd 44 rfl; clear hd hs; go_simp; exact hK _ _ rfl (StB.refl _ _ _)
  · intro a w' K hB hd hs hK; have d89 : a.tmps.getD 89 undef = .pointer (some ⟨gx, 7, none⟩) := hd 45 rfl; clear hd hs; have hcell : w'.cell? ⟨gx, 7, none⟩ = some (.int .u16 x8) := (World.cell?_of_block (a := ⟨gx, 7, none⟩) (hB.oth gx hnegx)).trans cgx7; go_simp; exact hK _ _ rfl (StB.refl _ _ _)
  · intro a w' K hB hd hs hK; have d90 : a.tmps.getD 90 undef = .int .u16 x8 := hd 46 rfl; clear hd hs; go_simp; first | exact hK _ _ rfl (StB.refl _ _ _) | exact hK _ _ (congrArg (Value.int .i64) (IntWalk.i64_in _ (by omega))) (StB.refl _ _ _)
  · intro a w' K hB hd hs hK; have d44 : a.tmps.getD 44 undef = .pointer (some ⟨g, 0, none⟩) := hd 0 rfl; clear hd hs; go_simp; exact hK _ _ rfl (StB.refl _ _ _)
  · intro a w' K hB hd hs hK; have d92 : a.tmps.getD 92 undef = .pointer (some ⟨g, 0, none⟩) := hd 48 rfl; clear hd hs; go_simp; exact hK _ _ rfl (StB.refl _ _ _)
  · intro a w' K hB hd hs hK; have d56 : a.tmps.getD 56 undef = .int .i64 x1 := hd 12 rfl; have d93 : a.tmps.getD 93 undef = .pointer (some ⟨g, 1, none⟩) := hd 49 rfl; clear hd hs; obtain ⟨u, hu⟩ : ∃ u, w'.cell? ⟨g, 1, none⟩ = some u := ⟨_, (cell_blkD 1 (by rw [hB.sz, hz0]; omega)).trans (Array.getElem?_eq_getElem (by rw [hB.sz, hz0]; omega))⟩; have hfz : w'.frozen? ⟨g, 1, none⟩ = false := frozen_blkD 1 (by rw [hB.sz, hz0]; omega); go_simp; exact hK undef _ ⟨_, rfl, by rw [blkD_setCell_same]; simp [hB.sz, hz0]⟩ (StB.set rfl (by rw [hB.sz, hz0]; omega))
  · intro a w' K hB hd hs hK; have d45 : a.tmps.getD 45 undef = .pointer (some ⟨g, 0, none⟩) := hd 1 rfl; clear hd hs; go_simp; exact hK _ _ rfl (StB.refl _ _ _)
  · intro a w' K hB hd hs hK; have d94 : a.tmps.getD 94 undef = .pointer (some ⟨g, 0, none⟩) := hd 51 rfl; clear hd hs; go_simp; exact hK _ _ rfl (StB.refl _ _ _)
  · intro a w' K hB hd hs hK; have d61 : a.tmps.getD 61 undef = .int .i64 x2 := hd 17 rfl; have d95 : a.tmps.getD 95 undef = .pointer (some ⟨g, 2, none⟩) := hd 52 rfl; clear hd hs; obtain ⟨u, hu⟩ : ∃ u, w'.cell? ⟨g, 2, none⟩ = some u := ⟨_, (cell_blkD 2 (by rw [hB.sz, hz0]; omega)).trans (Array.getElem?_eq_getElem (by rw [hB.sz, hz0]; omega))⟩; have hfz : w'.frozen? ⟨g, 2, none⟩ = false := frozen_blkD 2 (by rw [hB.sz, hz0]; omega); go_simp; exact hK undef _ ⟨_, rfl, by rw [blkD_setCell_same]; simp [hB.sz, hz0]⟩ (StB.set rfl (by rw [hB.sz, hz0]; omega))
  · intro a w' K hB hd hs hK; have d46 : a.tmps.getD 46 undef = .pointer (some ⟨g, 0, none⟩) := hd 2 rfl; clear hd hs; go_simp; exact hK _ _ rfl (StB.refl _ _ _)
  · intro a w' K hB hd hs hK; have d96 : a.tmps.getD 96 undef = .pointer (some ⟨g, 0, none⟩) := hd 54 rfl; clear hd hs; go_simp; exact hK _ _ rfl (StB.refl _ _ _)
  · intro a w' K hB hd hs hK; have d66 : a.tmps.getD 66 undef = .int .i64 x3 := hd 22 rfl; have d97 : a.tmps.getD 97 undef = .pointer (some ⟨g, 3, none⟩) := hd 55 rfl; clear hd hs; obtain ⟨u, hu⟩ : ∃ u, w'.cell? ⟨g, 3, none⟩ = some u := ⟨_, (cell_blkD 3 (by rw [hB.sz, hz0]; omega)).trans (Array.getElem?_eq_getElem (by rw [hB.sz, hz0]; omega))⟩; have hfz : w'.frozen? ⟨g, 3, none⟩ = false := frozen_blkD 3 (by rw [hB.sz, hz0]; omega); go_simp; exact hK undef _ ⟨_, rfl, by rw [blkD_setCell_same]; simp [hB.sz, hz0]⟩ (StB.set rfl (by rw [hB.sz, hz0]; omega))
  · intro a w' K hB hd hs hK; have d47 : a.tmps.getD 47 undef = .pointer (some ⟨g, 0, none⟩) := hd 3 rfl; clear hd hs; go_simp; exact hK _ _ rfl (StB.refl _ _ _)
  · intro a w' K hB hd hs hK; have d98 : a.tmps.getD 98 undef = .pointer (some ⟨g, 0, none⟩) := hd 57 rfl; clear hd hs; go_simp; exact hK _ _ rfl (StB.refl _ _ _)
  · intro a w' K hB hd hs hK; have d71 : a.tmps.getD 71 undef = .int .i64 x4 := hd 27 rfl; have d99 : a.tmps.getD 99 undef = .pointer (some ⟨g, 4, none⟩) := hd 58 rfl; clear hd hs; obtain ⟨u, hu⟩ : ∃ u, w'.cell? ⟨g, 4, none⟩ = some u := ⟨_, (cell_blkD 4 (by rw [hB.sz, hz0]; omega)).trans (Array.getElem?_eq_getElem (by rw [hB.sz, hz0]; omega))⟩; have hfz : w'.frozen? ⟨g, 4, none⟩ = false := frozen_blkD 4 (by rw [hB.sz, hz0]; omega); go_simp; exact hK undef _ ⟨_, rfl, by rw [blkD_setCell_same]; simp [hB.sz, hz0]⟩ (StB.set rfl (by rw [hB.sz, hz0]; omega))
  · intro a w' K hB hd hs hK; have d48 : a.tmps.getD 48 undef = .pointer (some ⟨g, 0, none⟩) := hd 4 rfl; clear hd hs; go_simp; exact hK _ _ rfl (StB.refl _ _ _)
  · intro a w' K hB hd hs hK; have d100 : a.tmps.getD 100 undef = .pointer (some ⟨g, 0, none⟩) := hd 60 rfl; clear hd hs; go_simp; exact hK _ _ rfl (StB.refl _ _ _)
  · intro a w' K hB hd hs hK; have d76 : a.tmps.getD 76 undef = .int .i64 x5 := hd 32 rfl; have d101 : a.tmps.getD 101 undef = .pointer (some ⟨g, 5, none⟩) := hd 61 rfl; clear hd hs; obtain ⟨u, hu⟩ : ∃ u, w'.cell? ⟨g, 5, none⟩ = some u := ⟨_, (cell_blkD 5 (by rw [hB.sz, hz0]; omega)).trans (Array.getElem?_eq_getElem (by rw [hB.sz, hz0]; omega))⟩; have hfz : w'.frozen? ⟨g, 5, none⟩ = false := frozen_blkD 5 (by rw [hB.sz, hz0]; omega); go_simp; exact hK undef _ ⟨_, rfl, by rw [blkD_setCell_same]; simp [hB.sz, hz0]⟩ (StB.set rfl (by rw [hB.sz, hz0]; omega))
  · intro a w' K hB hd hs hK; have d49 : a.tmps.getD 49 undef = .pointer (some ⟨g, 0, none⟩) := hd 5 rfl; clear hd hs; go_simp; exact hK _ _ rfl (StB.refl _ _ _)
  · intro a w' K hB hd hs hK; have d102 : a.tmps.getD 102 undef = .pointer (some ⟨g, 0, none⟩) := hd 63 rfl; clear hd hs; go_simp; exact hK _ _ rfl (StB.refl _ _ _)
  · intro a w' K hB hd hs hK; have d81 : a.tmps.getD 81 undef = .int .i64 x6 := hd 37 rfl; have d103 : a.tmps.getD 103 undef = .pointer (some ⟨g, 6, none⟩) := hd 64 rfl; clear hd hs; obtain ⟨u, hu⟩ : ∃ u, w'.cell? ⟨g, 6, none⟩ = some u := ⟨_, (cell_blkD 6 (by rw [hB.sz, hz0]; omega)).trans (Array.getElem?_eq_getElem (by rw [hB.sz, hz0]; omega))⟩; have hfz : w'.frozen? ⟨g, 6, none⟩ = false := frozen_blkD 6 (by rw [hB.sz, hz0]; omega); go_simp; exact hK undef _ ⟨_, rfl, by rw [blkD_setCell_same]; simp [hB.sz, hz0]⟩ (StB.set rfl (by rw [hB.sz, hz0]; omega))
  · intro a w' K hB hd hs hK; have d50 : a.tmps.getD 50 undef = .pointer (some ⟨g, 0, none⟩) := hd 6 rfl; clear hd hs; go_simp; exact hK _ _ rfl (StB.refl _ _ _)
  · intro a w' K hB hd hs hK; have d104 : a.tmps.getD 104 undef = .pointer (some ⟨g, 0, none⟩) := hd 66 rfl; clear hd hs; go_simp; exact hK _ _ rfl (StB.refl _ _ _)
  · intro a w' K hB hd hs hK; have d86 : a.tmps.getD 86 undef = .int .i64 x7 := hd 42 rfl; have d105 : a.tmps.getD 105 undef = .pointer (some ⟨g, 7, none⟩) := hd 67 rfl; clear hd hs; obtain ⟨u, hu⟩ : ∃ u, w'.cell? ⟨g, 7, none⟩ = some u := ⟨_, (cell_blkD 7 (by rw [hB.sz, hz0]; omega)).trans (Array.getElem?_eq_getElem (by rw [hB.sz, hz0]; omega))⟩; have hfz : w'.frozen? ⟨g, 7, none⟩ = false := frozen_blkD 7 (by rw [hB.sz, hz0]; omega); go_simp; exact hK undef _ ⟨_, rfl, by rw [blkD_setCell_same]; simp [hB.sz, hz0]⟩ (StB.set rfl (by rw [hB.sz, hz0]; omega))
  · intro a w' K hB hd hs hK; have d51 : a.tmps.getD 51 undef = .pointer (some ⟨g, 0, none⟩) := hd 7 rfl; clear hd hs; go_simp; exact hK _ _ rfl (StB.refl _ _ _)
  · intro a w' K hB hd hs hK; have d106 : a.tmps.getD 106 undef = .pointer (some ⟨g, 0, none⟩) := hd 69 rfl; clear hd hs; go_simp; exact hK _ _ rfl (StB.refl _ _ _)
  · intro a w' K hB hd hs hK; have d91 : a.tmps.getD 91 undef = .int .i64 x8 := hd 47 rfl; have d107 : a.tmps.getD 107 undef = .pointer (some ⟨g, 8, none⟩) := hd 70 rfl; clear hd hs; obtain ⟨u, hu⟩ : ∃ u, w'.cell? ⟨g, 8, none⟩ = some u := ⟨_, (cell_blkD 8 (by rw [hB.sz, hz0]; omega)).trans (Array.getElem?_eq_getElem (by rw [hB.sz, hz0]; omega))⟩; have hfz : w'.frozen? ⟨g, 8, none⟩ = false := frozen_blkD 8 (by rw [hB.sz, hz0]; omega); go_simp; exact hK undef _ ⟨_, rfl, by rw [blkD_setCell_same]; simp [hB.sz, hz0]⟩ (StB.set rfl (by rw [hB.sz, hz0]; omega))
  · intro a W8 hB8 hsz hdf hf hs
    have q1 : (blkD W8 g)[1]? = some (.int .i64 x1) := by obtain ⟨x, hx, hc⟩ := hf 50 rfl; cases hx; exact hc
    have q2 : (blkD W8 g)[2]? = some (.int .i64 x2) := by obtain ⟨x, hx, hc⟩ := hf 53 rfl; cases hx; exact hc
    have q3 : (blkD W8 g)[3]? = some (.int .i64 x3) := by obtain ⟨x, hx, hc⟩ := hf 56 rfl; cases hx; exact hc
    have q4 : (blkD W8 g)[4]? = some (.int .i64 x4) := by obtain ⟨x, hx, hc⟩ := hf 59 rfl; cases hx; exact hc
    have q5 : (blkD W8 g)[5]? = some (.int .i64 x5) := by obtain ⟨x, hx, hc⟩ := hf 62 rfl; cases hx; exact hc
    have q6 : (blkD W8 g)[6]? = some (.int .i64 x6) := by obtain ⟨x, hx, hc⟩ := hf 65 rfl; cases hx; exact hc
    have q7 : (blkD W8 g)[7]? = some (.int .i64 x7) := by obtain ⟨x, hx, hc⟩ := hf 68 rfl; cases hx; exact hc
    have q8 : (blkD W8 g)[8]? = some (.int .i64 x8) := by obtain ⟨x, hx, hc⟩ := hf 71 rfl; cases hx; exact hc
    have hact : a = ⟨#[.pointer (some ⟨g, 0, none⟩), .pointer (some ⟨gx, 0, none⟩), .pointer none, sl a 3, sl a 4, sl a 5, sl a 6, sl a 7, sl a 8, sl a 9, sl a 10, sl a 11, sl a 12, sl a 13, sl a 14, sl a 15, sl a 16, sl a 17, sl a 18, sl a 19, sl a 20, sl a 21, sl a 22, sl a 23, sl a 24, sl a 25, sl a 26, sl a 27, sl a 28, sl a 29, sl a 30, sl a 31, sl a 32, sl a 33, sl a 34, sl a 35, sl a 36, sl a 37, sl a 38, sl a 39, sl a 40, sl a 41, sl a 42, sl a 43, sl a 44, sl a 45, sl a 46, sl a 47, sl a 48, sl a 49, sl a 50, sl a 51, sl a 52, sl a 53, sl a 54, sl a 55, sl a 56, sl a 57, sl a 58, sl a 59, sl a 60, sl a 61, sl a 62, sl a 63, sl a 64, sl a 65, sl a 66, sl a 67, sl a 68, sl a 69, sl a 70, sl a 71, sl a 72, sl a 73, sl a 74, sl a 75, sl a 76, sl a 77, sl a 78, sl a 79, sl a 80, sl a 81, sl a 82, sl a 83, sl a 84, sl a 85, sl a 86, sl a 87, sl a 88, sl a 89, sl a 90, sl a 91, sl a 92, sl a 93, sl a 94, sl a 95, sl a 96, sl a 97, sl a 98, sl a 99, sl a 100, sl a 101, sl a 102, sl a 103, sl a 104, sl a 105, sl a 106, sl a 107], []⟩ := act_of (by rw [hsz]; rfl) hdf ⟨hs 0 rfl, hs 1 rfl, hs 2 rfl, rfl, rfl, rfl, rfl, rfl, rfl, rfl, rfl, rfl, rfl, rfl, rfl, rfl, rfl, rfl, rfl, rfl, rfl, rfl, rfl, rfl, rfl, rfl, rfl, rfl, rfl, rfl, rfl, rfl, rfl, rfl, rfl, rfl, rfl, rfl, rfl, rfl, rfl, rfl, rfl, rfl, rfl, rfl, rfl, rfl, rfl, rfl, rfl, rfl, rfl, rfl, rfl, rfl, rfl, rfl, rfl, rfl, rfl, rfl, rfl, rfl, rfl, rfl, rfl, rfl, rfl, rfl, rfl, rfl, rfl, rfl, rfl, rfl, rfl, rfl, rfl, rfl, rfl, rfl, rfl, rfl, rfl, rfl, rfl, rfl, rfl, rfl, rfl, rfl, rfl, rfl, rfl, rfl, rfl, rfl, rfl, rfl, rfl, rfl, rfl, rfl, rfl, rfl, rfl, rfl, trivial⟩
    clear hsz hdf hf hs
    rw [hact]
    clear hact
    have hall : blkD W8 g = #[k0, .int .i64 x1, .int .i64 x2, .int .i64 x3, .int .i64 x4, .int .i64 x5, .int .i64 x6, .int .i64 x7, .int .i64 x8, k9, k10, k11, k12, k13, k14, k15, k16, k17, k18] := hB8.all HG.out (by
      intro i x hx
      rcases (show i = 0 ∨ i = 1 ∨ i = 2 ∨ i = 3 ∨ i = 4 ∨ i = 5 ∨ i = 6 ∨ i = 7 ∨ i = 8 ∨ i = 9 ∨ i = 10 ∨ i = 11 ∨ i = 12 ∨ i = 13 ∨ i = 14 ∨ i = 15 ∨ i = 16 ∨ i = 17 ∨ i = 18 ∨ 19 ≤ i from by omega) with rfl | rfl | rfl | rfl | rfl | rfl | rfl | rfl | rfl | rfl | rfl | rfl | rfl | rfl | rfl | rfl | rfl | rfl | rfl | hi
      · cases hx
      · cases hx; exact q1
      · cases hx; exact q2
      · cases hx; exact q3
      · cases hx; exact q4
      · cases hx; exact q5
      · cases hx; exact q6
      · cases hx; exact q7
      · cases hx; exact q8
      · cases hx
      · cases hx
      · cases hx
      · cases hx
      · cases hx
      · cases hx
      · cases hx
      · cases hx
      · cases hx
      · cases hx
      · rw [List.getD_eq_getElem?_getD, List.getElem?_eq_none (by simpa using hi)] at hx; cases hx) rfl (by
      intro i hi
      have hi' : i < 19 := hi
      rcases (show i = 0 ∨ i = 1 ∨ i = 2 ∨ i = 3 ∨ i = 4 ∨ i = 5 ∨ i = 6 ∨ i = 7 ∨ i = 8 ∨ i = 9 ∨ i = 10 ∨ i = 11 ∨ i = 12 ∨ i = 13 ∨ i = 14 ∨ i = 15 ∨ i = 16 ∨ i = 17 ∨ i = 18 from by omega) with rfl | rfl | rfl | rfl | rfl | rfl | rfl | rfl | rfl | rfl | rfl | rfl | rfl | rfl | rfl | rfl | rfl | rfl | rfl
      all_goals rfl)
    go_wp2
    go_end0
    exact ⟨rfl, hall, fun B hBg => hB8.below (Below.refl _ _) hBg, fun k hk => hB8.blk hk⟩

set_option maxRecDepth 100000 in
set_option maxHeartbeats 8000000 in
theorem iof_y (g gx gy : Nat) (k0 k1 k2 k3 k4 k5 k6 k7 k8 k9 k10 k11 k12 k13 k14 k15 k16 k17 k18 : Value) (x1 x2 x3 x4 x5 x6 x7 x8 x9 x10 x11 x12 : Int) (w : World) (hg : blkD w g = #[k0, k1, k2, k3, k4, k5, k6, k7, k8, k9, k10, k11, k12, k13, k14, k15, k16, k17, k18]) (hx : blkD w gx = #[.int .u16 x1, .int .u8 x2, .int .u16 x3, .int .u8 x4, .int .u16 x5, .int .u16 x6, .int .u8 x7, .int .u16 x8]) (hy : blkD w gy = #[.pointer (some ⟨gx, 0, none⟩), .int .u16 x9, .int .u16 x10, .int .u32 x11, .int .u32 x12]) (hnegx : gx ≠ g) (hnegy : gy ≠ g) (a1 : 0 ≤ x1) (b1 : x1 ≤ 65535) (a2 : 0 ≤ x2) (b2 : x2 ≤ 255) (a3 : 0 ≤ x3) (b3 : x3 ≤ 65535) (a4 : 0 ≤ x4) (b4 : x4 ≤ 255) (a5 : 0 ≤ x5) (b5 : x5 ≤ 65535) (a6 : 0 ≤ x6) (b6 : x6 ≤ 65535) (a7 : 0 ≤ x7) (b7 : x7 ≤ 255) (a8 : 0 ≤ x8) (b8 : x8 ≤ 65535) (a9 : 0 ≤ x9) (b9 : x9 ≤ 65535) (a10 : 0 ≤ x10) (b10 : x10 ≤ 65535) (a11 : 0 ≤ x11) (b11 : x11 ≤ 4294967295) (a12 : 0 ≤ x12) (b12 : x12 ≤ 4294967295) :
    Calls Try.prog 18 #[.pointer (some ⟨g, 0, none⟩), .pointer none, .pointer (some ⟨gy, 0, none⟩)] w fun e w' => e = .returned (.tuple #[]) ∧ blkD w' g = #[k0, .int .i64 x1, .int .i64 x2, .int .i64 x3, .int .i64 x4, .int .i64 x5, .int .i64 x6, .int .i64 x7, .int .i64 x8, .int .i64 x9, .int .i64 x10, .int .i64 x11, .int .i64 x12, k13, k14, k15, k16, k17, k18] ∧ (∀ B, B ≤ g → Below B w w') ∧ ∀ k, k ≠ g → blkD w' k = blkD w k := by
  have cgx0 : w.cell? ⟨gx, 0, none⟩ = some (.int .u16 x1) := by rw [cell_blkD 0 (by rw [hx]; simp), hx]; rfl
  have cgx1 : w.cell? ⟨gx, 1, none⟩ = some (.int .u8 x2) := by rw [cell_blkD 1 (by rw [hx]; simp), hx]; rfl
  have cgx2 : w.cell? ⟨gx, 2, none⟩ = some (.int .u16 x3) := by rw [cell_blkD 2 (by rw [hx]; simp), hx]; rfl
  have cgx3 : w.cell? ⟨gx, 3, none⟩ = some (.int .u8 x4) := by rw [cell_blkD 3 (by rw [hx]; simp), hx]; rfl
  have cgx4 : w.cell? ⟨gx, 4, none⟩ = some (.int .u16 x5) := by rw [cell_blkD 4 (by rw [hx]; simp), hx]; rfl
  have cgx5 : w.cell? ⟨gx, 5, none⟩ = some (.int .u16 x6) := by rw [cell_blkD 5 (by rw [hx]; simp), hx]; rfl
  have cgx6 : w.cell? ⟨gx, 6, none⟩ = some (.int .u8 x7) := by rw [cell_blkD 6 (by rw [hx]; simp), hx]; rfl
  have cgx7 : w.cell? ⟨gx, 7, none⟩ = some (.int .u16 x8) := by rw [cell_blkD 7 (by rw [hx]; simp), hx]; rfl
  have cgy0 : w.cell? ⟨gy, 0, none⟩ = some (.pointer (some ⟨gx, 0, none⟩)) := by rw [cell_blkD 0 (by rw [hy]; simp), hy]; rfl
  have cgy1 : w.cell? ⟨gy, 1, none⟩ = some (.int .u16 x9) := by rw [cell_blkD 1 (by rw [hy]; simp), hy]; rfl
  have cgy2 : w.cell? ⟨gy, 2, none⟩ = some (.int .u16 x10) := by rw [cell_blkD 2 (by rw [hy]; simp), hy]; rfl
  have cgy3 : w.cell? ⟨gy, 3, none⟩ = some (.int .u32 x11) := by rw [cell_blkD 3 (by rw [hy]; simp), hy]; rfl
  have cgy4 : w.cell? ⟨gy, 4, none⟩ = some (.int .u32 x12) := by rw [cell_blkD 4 (by rw [hy]; simp), hy]; rfl
  have hz0 : (blkD w g).size = 19 := by rw [hg]; rfl
  have HG := Lib.hid hg
  clear hg hx hy
  go_enter Try.func18, Try.ntmps18
  go_wp2
  refine wp_region_met (by kernel_rfl) (fun w' => StB g (fun i => ([none, none, none, none, none, none, none, none, none, some (.int .i64 x9), some (.int .i64 x10), some (.int .i64 x11), some (.int .i64 x12), none, none, none, none, none, none] : List (Option Value)).getD i none) w w') (fun z1 z2 => StB g (fun i => ([none, none, none, none, none, none, none, none, none, some (.int .i64 x9), some (.int .i64 x10), some (.int .i64 x11), some (.int .i64 x12), none, none, none, none, none, none] : List (Option Value)).getD i none) z1 z2) (fun i v w' => FactQ g (fun i => ([none, none, none, none, none, none, none, none, none, some (.int .i64 x9), some (.int .i64 x10), some (.int .i64 x11), some (.int .i64 x12), none, none, none, none, none, none] : List (Option Value)).getD i none) (((.inl (.pointer (some ⟨g, 0, none⟩))) :: (.inl (.pointer (some ⟨g, 0, none⟩))) :: (.inl (.pointer (some ⟨g, 0, none⟩))) :: (.inl (.pointer (some ⟨g, 0, none⟩))) :: (.inl (.pointer (some ⟨gy, 0, none⟩))) :: (.inl (.pointer (some ⟨gy, 0, none⟩))) :: (.inl (.pointer (some ⟨gy, 1, none⟩))) :: (.inl (.int .u16 x9)) :: (.inl (.int .i64 x9)) :: (.inl (.pointer (some ⟨gy, 0, none⟩))) :: (.inl (.pointer (some ⟨gy, 0, none⟩))) :: (.inl (.pointer (some ⟨gy, 2, none⟩))) :: (.inl (.int .u16 x10)) :: (.inl (.int .i64 x10)) :: (.inl (.pointer (some ⟨gy, 0, none⟩))) :: (.inl (.pointer (some ⟨gy, 0, none⟩))) :: (.inl (.pointer (some ⟨gy, 3, none⟩))) :: (.inl (.int .u32 x11)) :: (.inl (.int .i64 x11)) :: (.inl (.pointer (some ⟨gy, 0, none⟩))) :: (.inl (.pointer (some ⟨gy, 0, none⟩))) :: (.inl (.pointer (some ⟨gy, 4, none⟩))) :: (.inl (.int .u32 x12)) :: (.inl (.int .i64 x12)) :: (.inl (.pointer (some ⟨g, 0, none⟩))) :: (.inl (.pointer (some ⟨g, 9, none⟩))) :: (.inr 9) :: (.inl (.pointer (some ⟨g, 0, none⟩))) :: (.inl (.pointer (some ⟨g, 10, none⟩))) :: (.inr 10) :: (.inl (.pointer (some ⟨g, 0, none⟩))) :: (.inl (.pointer (some ⟨g, 11, none⟩))) :: (.inr 11) :: (.inl (.pointer (some ⟨g, 0, none⟩))) :: (.inl (.pointer (some ⟨g, 12, none⟩))) :: (.inr 12) :: ([] : List (Sum Value Nat)))[i]?.getD (.inl undef)) v w') (by kernel_rfl) (fun z1 z2 h1 h2 => h1.trans h2) (by intro i v z1 z2 _ hE hF; exact FactQ.keep hE hF) (StB.drew _ _ _) ⟨⟨rfl, ?_⟩, ⟨rfl, ?_⟩, ⟨rfl, ?_⟩, ⟨rfl, ?_⟩, ⟨rfl, ?_⟩, ⟨rfl, ?_⟩, ⟨rfl, ?_⟩, ⟨rfl, ?_⟩, ⟨rfl, ?_⟩, ⟨rfl, ?_⟩, ⟨rfl, ?_⟩, ⟨rfl, ?_⟩, ⟨rfl, ?_⟩, ⟨rfl, ?_⟩, ⟨rfl, ?_⟩, ⟨rfl, ?_⟩, ⟨rfl, ?_⟩, ⟨rfl, ?_⟩, ⟨rfl, ?_⟩, ⟨rfl, ?_⟩, ⟨rfl, ?_⟩, ⟨rfl, ?_⟩, ⟨rfl, ?_⟩, ⟨rfl, ?_⟩, ⟨rfl, ?_⟩, ⟨rfl, ?_⟩, ⟨rfl, ?_⟩, ⟨rfl, ?_⟩, ⟨rfl, ?_⟩, ⟨rfl, ?_⟩, ⟨rfl, ?_⟩, ⟨rfl, ?_⟩, ⟨rfl, ?_⟩, ⟨rfl, ?_⟩, ⟨rfl, ?_⟩, ⟨rfl, ?_⟩, trivial⟩ ?_
  · intro a w' K hB hd hs hK; have d0 : a.tmps.getD 0 undef = .pointer (some ⟨g, 0, none⟩) := hs 0 rfl; clear hd hs; go_simp; exact hK _ _ rfl (StB.refl _ _ _)
  · intro a w' K hB hd hs hK; have d0 : a.tmps.getD 0 undef = .pointer (some ⟨g, 0, none⟩) := hs 0 rfl; clear hd hs; go_simp; exact hK _ _ rfl (StB.refl _ _ _)
  · intro a w' K hB hd hs hK; have d0 : a.tmps.getD 0 undef = .pointer (some ⟨g, 0, none⟩) := hs 0 rfl; clear hd hs; go_simp; exact hK _ _ rfl (StB.refl _ _ _)
  · intro a w' K hB hd hs hK; have d0 : a.tmps.getD 0 undef = .pointer (some ⟨g, 0, none⟩) := hs 0 rfl; clear hd hs; go_simp; exact hK _ _ rfl (StB.refl _ _ _)
  · intro a w' K hB hd hs hK; have d2 : a.tmps.getD 2 undef = .pointer (some ⟨gy, 0, none⟩) := hs 2 rfl; clear hd hs; go_simp; exact hK _ _ rfl (StB.refl _ _ _)
  · intro a w' K hB hd hs hK; have d16 : a.tmps.getD 16 undef = .pointer (some ⟨gy, 0, none⟩) := hd 4 rfl; clear hd hs; go_simp; exact hK _ _ rfl (StB.refl _ _ _)
  · intro a w' K hB hd hs hK; have d17 : a.tmps.getD 17 undef = .pointer (some ⟨gy, 0, none⟩) := hd 5 rfl; clear hd hs; go_simp; exact hK _ _ rfl (StB.refl _ _ _)
  · intro a w' K hB hd hs hK; have d18 : a.tmps.getD 18 undef = .pointer (some ⟨gy, 1, none⟩) := hd 6 rfl; clear hd hs; have hcell : w'.cell? ⟨gy, 1, none⟩ = some (.int .u16 x9) := (World.cell?_of_block (a := ⟨gy, 1, none⟩) (hB.oth gy hnegy)).trans cgy1; go_simp; exact hK _ _ rfl (StB.refl _ _ _)
  · intro a w' K hB hd hs hK; have d19 : a.tmps.getD 19 undef = .int .u16 x9 := hd 7 rfl; clear hd hs; go_simp; first | exact hK _ _ rfl (StB.refl _ _ _) | exact hK _ _ (congrArg (Value.int .i64) (IntWalk.i64_in _ (by omega))) (StB.refl _ _ _)
  · intro a w' K hB hd hs hK; have d2 : a.tmps.getD 2 undef = .pointer (some ⟨gy, 0, none⟩) := hs 2 rfl; clear hd hs; go_simp; exact hK _ _ rfl (StB.refl _ _ _)
  · intro a w' K hB hd hs hK; have d21 : a.tmps.getD 21 undef = .pointer (some ⟨gy, 0, none⟩) := hd 9 rfl; clear hd hs; go_simp; exact hK _ _ rfl (StB.refl _ _ _)
  · intro a w' K hB hd hs hK; have d22 : a.tmps.getD 22 undef = .pointer (some ⟨gy, 0, none⟩) := hd 10 rfl; clear hd hs; go_simp; exact hK _ _ rfl (StB.refl _ _ _)
  · intro a w' K hB hd hs hK; have d23 : a.tmps.getD 23 undef = .pointer (some ⟨gy, 2, none⟩) := hd 11 rfl; clear hd hs; have hcell : w'.cell? ⟨gy, 2, none⟩ = some (.int .u16 x10) := (World.cell?_of_block (a := ⟨gy, 2, none⟩) (hB.oth gy hnegy)).trans cgy2; go_simp; exact hK _ _ rfl (StB.refl _ _ _)
  · intro a w' K hB hd hs hK; have d24 : a.tmps.getD 24 undef = .int .u16 x10 := hd 12 rfl; clear hd hs; go_simp; first | exact hK _ _ rfl (StB.refl _ _ _) | exact hK _ _ (congrArg (Value.int .i64) (IntWalk.i64_in _ (by omega))) (StB.refl _ _ _)
  · intro a w' K hB hd hs hK; have d2 : a.tmps.getD 2 undef = .pointer (some ⟨gy, 0, none⟩) := hs 2 rfl; clear hd hs; go_simp; exact hK _ _ rfl (StB.refl _ _ _)
  · intro a w' K hB hd hs hK; have d26 : a.tmps.getD 26 undef = .pointer (some ⟨gy, 0, none⟩) := hd 14 rfl; clear hd hs; go_simp; exact hK _ _ rfl (StB.refl _ _ _)
  · intro a w' K hB hd hs hK; have d27 : a.tmps.getD 27 undef = .pointer (some ⟨gy, 0, none⟩) := hd 15 rfl; clear hd hs; go_simp; exact hK _ _ rfl (StB.refl _ _ _)
  · intro a w' K hB hd hs hK; have d28 : a.tmps.getD 28 undef = .pointer (some ⟨gy, 3, none⟩) := hd 16 rfl; clear hd hs; have hcell : w'.cell? ⟨gy, 3, none⟩ = some (.int .u32 x11) := (World.cell?_of_block (a := ⟨gy, 3, none⟩) (hB.oth gy hnegy)).trans cgy3; go_simp; exact hK _ _ rfl (StB.refl _ _ _)
  · intro a w' K hB hd hs hK; have d29 : a.tmps.getD 29 undef = .int .u32 x11 := hd 17 rfl; clear hd hs; go_simp; first | exact hK _ _ rfl (StB.refl _ _ _) | exact hK _ _ (congrArg (Value.int .i64) (IntWalk.i64_in _ (by omega))) (StB.refl _ _ _)
  · intro a w' K hB hd hs hK; have d2 : a.tmps.getD 2 undef = .pointer (some ⟨gy, 0, none⟩) := hs 2 rfl; clear hd hs; go_simp; exact hK _ _ rfl (StB.refl _ _ _)
  · intro a w' K hB hd hs hK; have d31 : a.tmps.getD 31 undef = .pointer (some ⟨gy, 0, none⟩) := hd 19 rfl; clear hd hs; go_simp; exact hK _ _ rfl (StB.refl _ _ _)
  · intro a w' K hB hd hs hK; have d32 : a.tmps.getD 32 undef = .pointer (some ⟨gy, 0, none⟩) := hd 20 rfl; clear hd hs; go_simp; exact hK _ _ rfl (StB.refl _ _ _)
  · intro a w' K hB hd hs hK; have d33 : a.tmps.getD 33 undef = .pointer (some ⟨gy, 4, none⟩) := hd 21 rfl; clear hd hs; have hcell : w'.cell? ⟨gy, 4, none⟩ = some (.int .u32 x12) := (World.cell?_of_block (a := ⟨gy, 4, none⟩) (hB.oth gy hnegy)).trans cgy4; go_simp; exact hK _ _ rfl (StB.refl _ _ _)
  · intro a w' K hB hd hs hK; have d34 : a.tmps.getD 34 undef = .int .u32 x12 := hd 22 rfl; clear hd hs; go_simp; first | exact hK _ _ rfl (StB.refl _ _ _) | exact hK _ _ (congrArg (Value.int .i64) (IntWalk.i64_in _ (by omega))) (StB.refl _ _ _)
  · intro a w' K hB hd hs hK; have d12 : a.tmps.getD 12 undef = .pointer (some ⟨g, 0, none⟩) := hd 0 rfl; clear hd hs; go_simp; exact hK _ _ rfl (StB.refl _ _ _)
  · intro a w' K hB hd hs hK; have d36 : a.tmps.getD 36 undef = .pointer (some ⟨g, 0, none⟩) := hd 24 rfl; clear hd hs; go_simp; exact hK _ _ rfl (StB.refl _ _ _)
  · intro a w' K hB hd hs hK; have d20 : a.tmps.getD 20 undef = .int .i64 x9 := hd 8 rfl; have d37 : a.tmps.getD 37 undef = .pointer (some ⟨g, 9, none⟩) := hd 25 rfl; clear hd hs; obtain ⟨u, hu⟩ : ∃ u, w'.cell? ⟨g, 9, none⟩ = some u := ⟨_, (cell_blkD 9 (by rw [hB.sz, hz0]; omega)).trans (Array.getElem?_eq_getElem (by rw [hB.sz, hz0]; omega))⟩; have hfz : w'.frozen? ⟨g, 9, none⟩ = false := frozen_blkD 9 (by rw [hB.sz, hz0]; omega); go_simp; exact hK undef _ ⟨_, rfl, by rw [blkD_setCell_same]; simp [hB.sz, hz0]⟩ (StB.set rfl (by rw [hB.sz, hz0]; omega))
  · intro a w' K hB hd hs hK; have d13 : a.tmps.getD 13 undef = .pointer (some ⟨g, 0, none⟩) := hd 1 rfl; clear hd hs; go_simp; exact hK _ _ rfl (StB.refl _ _ _)
  · intro a w' K hB hd hs hK; have d38 : a.tmps.getD 38 undef = .pointer (some ⟨g, 0, none⟩) := hd 27 rfl; clear hd hs; go_simp; exact hK _ _ rfl (StB.refl _ _ _)
  · intro a w' K hB hd hs hK; have d25 : a.tmps.getD 25 undef = .int .i64 x10 := hd 13 rfl; have d39 : a.tmps.getD 39 undef = .pointer (some ⟨g, 10, none⟩) := hd 28 rfl; clear hd hs; obtain ⟨u, hu⟩ : ∃ u, w'.cell? ⟨g, 10, none⟩ = some u := ⟨_, (cell_blkD 10 (by rw [hB.sz, hz0]; omega)).trans (Array.getElem?_eq_getElem (by rw [hB.sz, hz0]; omega))⟩; have hfz : w'.frozen? ⟨g, 10, none⟩ = false := frozen_blkD 10 (by rw [hB.sz, hz0]; omega); go_simp; exact hK undef _ ⟨_, rfl, by rw [blkD_setCell_same]; simp [hB.sz, hz0]⟩ (StB.set rfl (by rw [hB.sz, hz0]; omega))
  · intro a w' K hB hd hs hK; have d14 : a.tmps.getD 14 undef = .pointer (some ⟨g, 0, none⟩) := hd 2 rfl; clear hd hs; go_simp; exact hK _ _ rfl (StB.refl _ _ _)
  · intro a w' K hB hd hs hK; have d40 : a.tmps.getD 40 undef = .pointer (some ⟨g, 0, none⟩) := hd 30 rfl; clear hd hs; go_simp; exact hK _ _ rfl (StB.refl _ _ _)
  · intro a w' K hB hd hs hK; have d30 : a.tmps.getD 30 undef = .int .i64 x11 := hd 18 rfl; have d41 : a.tmps.getD 41 undef = .pointer (some ⟨g, 11, none⟩) := hd 31 rfl; clear hd hs; obtain ⟨u, hu⟩ : ∃ u, w'.cell? ⟨g, 11, none⟩ = some u := ⟨_, (cell_blkD 11 (by rw [hB.sz, hz0]; omega)).trans (Array.getElem?_eq_getElem (by rw [hB.sz, hz0]; omega))⟩; have hfz : w'.frozen? ⟨g, 11, none⟩ = false := frozen_blkD 11 (by rw [hB.sz, hz0]; omega); go_simp; exact hK undef _ ⟨_, rfl, by rw [blkD_setCell_same]; simp [hB.sz, hz0]⟩ (StB.set rfl (by rw [hB.sz, hz0]; omega))
  · intro a w' K hB hd hs hK; have d15 : a.tmps.getD 15 undef = .pointer (some ⟨g, 0, none⟩) := hd 3 rfl; clear hd hs; go_simp; exact hK _ _ rfl (StB.refl _ _ _)
  · intro a w' K hB hd hs hK; have d42 : a.tmps.getD 42 undef = .pointer (some ⟨g, 0, none⟩) := hd 33 rfl; clear hd hs; go_simp; exact hK _ _ rfl (StB.refl _ _ _)
  · intro a w' K hB hd hs hK; have d35 : a.tmps.getD 35 undef = .int .i64 x12 := hd 23 rfl; have d43 : a.tmps.getD 43 undef = .pointer (some ⟨g, 12, none⟩) := hd 34 rfl; clear hd hs; obtain ⟨u, hu⟩ : ∃ u, w'.cell? ⟨g, 12, none⟩ = some u := ⟨_, (cell_blkD 12 (by rw [hB.sz, hz0]; omega)).trans (Array.getElem?_eq_getElem (by rw [hB.sz, hz0]; omega))⟩; have hfz : w'.frozen? ⟨g, 12, none⟩ = false := frozen_blkD 12 (by rw [hB.sz, hz0]; omega); go_simp; exact hK undef _ ⟨_, rfl, by rw [blkD_setCell_same]; simp [hB.sz, hz0]⟩ (StB.set rfl (by rw [hB.sz, hz0]; omega))
  · intro a W7 hB7 hsz hdf hf hs
    have q9 : (blkD W7 g)[9]? = some (.int .i64 x9) := by obtain ⟨x, hx, hc⟩ := hf 26 rfl; cases hx; exact hc
    have q10 : (blkD W7 g)[10]? = some (.int .i64 x10) := by obtain ⟨x, hx, hc⟩ := hf 29 rfl; cases hx; exact hc
    have q11 : (blkD W7 g)[11]? = some (.int .i64 x11) := by obtain ⟨x, hx, hc⟩ := hf 32 rfl; cases hx; exact hc
    have q12 : (blkD W7 g)[12]? = some (.int .i64 x12) := by obtain ⟨x, hx, hc⟩ := hf 35 rfl; cases hx; exact hc
    have hact : a = ⟨#[.pointer (some ⟨g, 0, none⟩), .pointer (some ⟨gx, 0, none⟩), .pointer (some ⟨gy, 0, none⟩), sl a 3, sl a 4, sl a 5, sl a 6, sl a 7, sl a 8, sl a 9, sl a 10, sl a 11, sl a 12, sl a 13, sl a 14, sl a 15, sl a 16, sl a 17, sl a 18, sl a 19, sl a 20, sl a 21, sl a 22, sl a 23, sl a 24, sl a 25, sl a 26, sl a 27, sl a 28, sl a 29, sl a 30, sl a 31, sl a 32, sl a 33, sl a 34, sl a 35, sl a 36, sl a 37, sl a 38, sl a 39, sl a 40, sl a 41, sl a 42, sl a 43, sl a 44, sl a 45, sl a 46, sl a 47, sl a 48, sl a 49, sl a 50, sl a 51, sl a 52, sl a 53, sl a 54, sl a 55, sl a 56, sl a 57, sl a 58, sl a 59, sl a 60, sl a 61, sl a 62, sl a 63, sl a 64, sl a 65, sl a 66, sl a 67, sl a 68, sl a 69, sl a 70, sl a 71, sl a 72, sl a 73, sl a 74, sl a 75, sl a 76, sl a 77, sl a 78, sl a 79, sl a 80, sl a 81, sl a 82, sl a 83, sl a 84, sl a 85, sl a 86, sl a 87, sl a 88, sl a 89, sl a 90, sl a 91, sl a 92, sl a 93, sl a 94, sl a 95, sl a 96, sl a 97, sl a 98, sl a 99, sl a 100, sl a 101, sl a 102, sl a 103, sl a 104, sl a 105, sl a 106, sl a 107], []⟩ := act_of (by rw [hsz]; rfl) hdf ⟨hs 0 rfl, hs 1 rfl, hs 2 rfl, rfl, rfl, rfl, rfl, rfl, rfl, rfl, rfl, rfl, rfl, rfl, rfl, rfl, rfl, rfl, rfl, rfl, rfl, rfl, rfl, rfl, rfl, rfl, rfl, rfl, rfl, rfl, rfl, rfl, rfl, rfl, rfl, rfl, rfl, rfl, rfl, rfl, rfl, rfl, rfl, rfl, rfl, rfl, rfl, rfl, rfl, rfl, rfl, rfl, rfl, rfl, rfl, rfl, rfl, rfl, rfl, rfl, rfl, rfl, rfl, rfl, rfl, rfl, rfl, rfl, rfl, rfl, rfl, rfl, rfl, rfl, rfl, rfl, rfl, rfl, rfl, rfl, rfl, rfl, rfl, rfl, rfl, rfl, rfl, rfl, rfl, rfl, rfl, rfl, rfl, rfl, rfl, rfl, rfl, rfl, rfl, rfl, rfl, rfl, rfl, rfl, rfl, rfl, rfl, rfl, trivial⟩
    clear hsz hdf hf hs
    rw [hact]
    clear hact
    have hall : blkD W7 g = #[k0, k1, k2, k3, k4, k5, k6, k7, k8, .int .i64 x9, .int .i64 x10, .int .i64 x11, .int .i64 x12, k13, k14, k15, k16, k17, k18] := hB7.all HG.out (by
      intro i x hx
      rcases (show i = 0 ∨ i = 1 ∨ i = 2 ∨ i = 3 ∨ i = 4 ∨ i = 5 ∨ i = 6 ∨ i = 7 ∨ i = 8 ∨ i = 9 ∨ i = 10 ∨ i = 11 ∨ i = 12 ∨ i = 13 ∨ i = 14 ∨ i = 15 ∨ i = 16 ∨ i = 17 ∨ i = 18 ∨ 19 ≤ i from by omega) with rfl | rfl | rfl | rfl | rfl | rfl | rfl | rfl | rfl | rfl | rfl | rfl | rfl | rfl | rfl | rfl | rfl | rfl | rfl | hi
      · cases hx
      · cases hx
      · cases hx
      · cases hx
      · cases hx
      · cases hx
      · cases hx
      · cases hx
      · cases hx
      · cases hx; exact q9
      · cases hx; exact q10
      · cases hx; exact q11
      · cases hx; exact q12
      · cases hx
      · cases hx
      · cases hx
      · cases hx
      · cases hx
      · cases hx
      · rw [List.getD_eq_getElem?_getD, List.getElem?_eq_none (by simpa using hi)] at hx; cases hx) rfl (by
      intro i hi
      have hi' : i < 19 := hi
      rcases (show i = 0 ∨ i = 1 ∨ i = 2 ∨ i = 3 ∨ i = 4 ∨ i = 5 ∨ i = 6 ∨ i = 7 ∨ i = 8 ∨ i = 9 ∨ i = 10 ∨ i = 11 ∨ i = 12 ∨ i = 13 ∨ i = 14 ∨ i = 15 ∨ i = 16 ∨ i = 17 ∨ i = 18 from by omega) with rfl | rfl | rfl | rfl | rfl | rfl | rfl | rfl | rfl | rfl | rfl | rfl | rfl | rfl | rfl | rfl | rfl | rfl | rfl
      all_goals rfl)
    have cgx0' : W7.cell? ⟨gx, 0, none⟩ = some (.int .u16 x1) := (World.cell?_of_block (a := ⟨gx, 0, none⟩) (hB7.oth gx hnegx)).trans cgx0
    have cgx1' : W7.cell? ⟨gx, 1, none⟩ = some (.int .u8 x2) := (World.cell?_of_block (a := ⟨gx, 1, none⟩) (hB7.oth gx hnegx)).trans cgx1
    have cgx2' : W7.cell? ⟨gx, 2, none⟩ = some (.int .u16 x3) := (World.cell?_of_block (a := ⟨gx, 2, none⟩) (hB7.oth gx hnegx)).trans cgx2
    have cgx3' : W7.cell? ⟨gx, 3, none⟩ = some (.int .u8 x4) := (World.cell?_of_block (a := ⟨gx, 3, none⟩) (hB7.oth gx hnegx)).trans cgx3
    have cgx4' : W7.cell? ⟨gx, 4, none⟩ = some (.int .u16 x5) := (World.cell?_of_block (a := ⟨gx, 4, none⟩) (hB7.oth gx hnegx)).trans cgx4
    have cgx5' : W7.cell? ⟨gx, 5, none⟩ = some (.int .u16 x6) := (World.cell?_of_block (a := ⟨gx, 5, none⟩) (hB7.oth gx hnegx)).trans cgx5
    have cgx6' : W7.cell? ⟨gx, 6, none⟩ = some (.int .u8 x7) := (World.cell?_of_block (a := ⟨gx, 6, none⟩) (hB7.oth gx hnegx)).trans cgx6
    have cgx7' : W7.cell? ⟨gx, 7, none⟩ = some (.int .u16 x8) := (World.cell?_of_block (a := ⟨gx, 7, none⟩) (hB7.oth gx hnegx)).trans cgx7
    have hz1 : (blkD W7 g).size = 19 := hB7.sz.trans hz0
    clear cgx0 cgx1 cgx2 cgx3 cgx4 cgx5 cgx6 cgx7 hz0 cgy0 cgy1 cgy2 cgy3 cgy4
    have cgx0 := cgx0'
    clear cgx0'
    have cgx1 := cgx1'
    clear cgx1'
    have cgx2 := cgx2'
    clear cgx2'
    have cgx3 := cgx3'
    clear cgx3'
    have cgx4 := cgx4'
    clear cgx4'
    have cgx5 := cgx5'
    clear cgx5'
    have cgx6 := cgx6'
    clear cgx6'
    have cgx7 := cgx7'
    clear cgx7'
    have hz0 := hz1
    have HALL := Lib.hid hall
    have HB7 := Lib.hid hB7
    clear hz1 hall hB7 q9 q10 q11 q12
    go_wp2
    refine wp_region_met (by kernel_rfl) (fun w' => StB g (fun i => ([none, some (.int .i64 x1), some (.int .i64 x2), some (.int .i64 x3), some (.int .i64 x4), some (.int .i64 x5), some (.int .i64 x6), some (.int .i64 x7), some (.int .i64 x8), none, none, none, none, none, none, none, none, none, none] : List (Option Value)).getD i none) W7 w') (fun z1 z2 => StB g (fun i => ([none, some (.int .i64 x1), some (.int .i64 x2), some (.int .i64 x3), some (.int .i64 x4), some (.int .i64 x5), some (.int .i64 x6), some (.int .i64 x7), some (.int .i64 x8), none, none, none, none, none, none, none, none, none, none] : List (Option Value)).getD i none) z1 z2) (fun i v w' => FactQ g (fun i => ([none, some (.int .i64 x1), some (.int .i64 x2), some (.int .i64 x3), some (.int .i64 x4), some (.int .i64 x5), some (.int .i64 x6), some (.int .i64 x7), some (.int .i64 x8), none, none, none, none, none, none, none, none, none, none] : List (Option Value)).getD i none) (((.inl (.pointer (some ⟨g, 0, none⟩))) :: (.inl (.pointer (some ⟨g, 0, none⟩))) :: (.inl (.pointer (some ⟨g, 0, none⟩))) :: (.inl (.pointer (some ⟨g, 0, none⟩))) :: (.inl (.pointer (some ⟨g, 0, none⟩))) :: (.inl (.pointer (some ⟨g, 0, none⟩))) :: (.inl (.pointer (some ⟨g, 0, none⟩))) :: (.inl (.pointer (some ⟨g, 0, none⟩))) :: (.inl (.pointer (some ⟨gx, 0, none⟩))) :: (.inl (.pointer (some ⟨gx, 0, none⟩))) :: (.inl (.pointer (some ⟨gx, 0, none⟩))) :: (.inl (.int .u16 x1)) :: (.inl (.int .i64 x1)) :: (.inl (.pointer (some ⟨gx, 0, none⟩))) :: (.inl (.pointer (some ⟨gx, 0, none⟩))) :: (.inl (.pointer (some ⟨gx, 1, none⟩))) :: (.inl (.int .u8 x2)) :: (.inl (.int .i64 x2)) :: (.inl (.pointer (some ⟨gx, 0, none⟩))) :: (.inl (.pointer (some ⟨gx, 0, none⟩))) :: (.inl (.pointer (some ⟨gx, 2, none⟩))) :: (.inl (.int .u16 x3)) :: (.inl (.int .i64 x3)) :: (.inl (.pointer (some ⟨gx, 0, none⟩))) :: (.inl (.pointer (some ⟨gx, 0, none⟩))) :: (.inl (.pointer (some ⟨gx, 3, none⟩))) :: (.inl (.int .u8 x4)) :: (.inl (.int .i64 x4)) :: (.inl (.pointer (some ⟨gx, 0, none⟩))) :: (.inl (.pointer (some ⟨gx, 0, none⟩))) :: (.inl (.pointer (some ⟨gx, 4, none⟩))) :: (.inl (.int .u16 x5)) :: (.inl (.int .i64 x5)) :: (.inl (.pointer (some ⟨gx, 0, none⟩))) :: (.inl (.pointer (some ⟨gx, 0, none⟩))) :: (.inl (.pointer (some ⟨gx, 5, none⟩))) :: (.inl (.int .u16 x6)) :: (.inl (.int .i64 x6)) :: (.inl (.pointer (some ⟨gx, 0, none⟩))) :: (.inl (.pointer (some ⟨gx, 0, none⟩))) :: (.inl (.pointer (some ⟨gx, 6, none⟩))) :: (.inl (.int .u8 x7)) :: (.inl (.int .i64 x7)) :: (.inl (.pointer (some ⟨gx, 0, none⟩))) :: (.inl (.pointer (some ⟨gx, 0, none⟩))) :: (.inl (.pointer (some ⟨gx, 7, none⟩))) :: (.inl (.int .u16 x8)) :: (.inl (.int .i64 x8)) :: (.inl (.pointer (some ⟨g, 0, none⟩))) :: (.inl (.pointer (some ⟨g, 1, none⟩))) :: (.inr 1) :: (.inl (.pointer (some ⟨g, 0, none⟩))) :: (.inl (.pointer (some ⟨g, 2, none⟩))) :: (.inr 2) :: (.inl (.pointer (some ⟨g, 0, none⟩))) :: (.inl (.pointer (some ⟨g, 3, none⟩))) :: (.inr 3) :: (.inl (.pointer (some ⟨g, 0, none⟩))) :: (.inl (.pointer (some ⟨g, 4, none⟩))) :: (.inr 4) :: (.inl (.pointer (some ⟨g, 0, none⟩))) :: (.inl (.pointer (some ⟨g, 5, none⟩))) :: (.inr 5) :: (.inl (.pointer (some ⟨g, 0, none⟩))) :: (.inl (.pointer (some ⟨g, 6, none⟩))) :: (.inr 6) :: (.inl (.pointer (some ⟨g, 0, none⟩))) :: (.inl (.pointer (some ⟨g, 7, none⟩))) :: (.inr 7) :: (.inl (.pointer (some ⟨g, 0, none⟩))) :: (.inl (.pointer (some ⟨g, 8, none⟩))) :: (.inr 8) :: ([] : List (Sum Value Nat)))[i]?.getD (.inl undef)) v w') (by kernel_rfl) (fun z1 z2 h1 h2 => h1.trans h2) (by intro i v z1 z2 _ hE hF; exact FactQ.keep hE hF) (StB.drew _ _ _) ⟨⟨rfl, ?_⟩, ⟨rfl, ?_⟩, ⟨rfl, ?_⟩, ⟨rfl, ?_⟩, ⟨rfl, ?_⟩, ⟨rfl, ?_⟩, ⟨rfl, ?_⟩, ⟨rfl, ?_⟩, ⟨rfl, ?_⟩, ⟨rfl, ?_⟩, ⟨rfl, ?_⟩, ⟨rfl, ?_⟩, ⟨rfl, ?_⟩, ⟨rfl, ?_⟩, ⟨rfl, ?_⟩, ⟨rfl, ?_⟩, ⟨rfl, ?_⟩, ⟨rfl, ?_⟩, ⟨rfl, ?_⟩, ⟨rfl, ?_⟩, ⟨rfl, ?_⟩, ⟨rfl, ?_⟩, ⟨rfl, ?_⟩, ⟨rfl, ?_⟩, ⟨rfl, ?_⟩, ⟨rfl, ?_⟩, ⟨rfl, ?_⟩, ⟨rfl, ?_⟩, ⟨rfl, ?_⟩, ⟨rfl, ?_⟩, ⟨rfl, ?_⟩, ⟨rfl, ?_⟩, ⟨rfl, ?_⟩, ⟨rfl, ?_⟩, ⟨rfl, ?_⟩, ⟨rfl, ?_⟩, ⟨rfl, ?_⟩, ⟨rfl, ?_⟩, ⟨rfl, ?_⟩, ⟨rfl, ?_⟩, ⟨rfl, ?_⟩, ⟨rfl, ?_⟩, ⟨rfl, ?_⟩, ⟨rfl, ?_⟩, ⟨rfl, ?_⟩, ⟨rfl, ?_⟩, ⟨rfl, ?_⟩, ⟨rfl, ?_⟩, ⟨rfl, ?_⟩, ⟨rfl, ?_⟩, ⟨rfl, ?_⟩, ⟨rfl, ?_⟩, ⟨rfl, ?_⟩, ⟨rfl, ?_⟩, ⟨rfl, ?_⟩, ⟨rfl, ?_⟩, ⟨rfl, ?_⟩, ⟨rfl, ?_⟩, ⟨rfl, ?_⟩, ⟨rfl, ?_⟩, ⟨rfl, ?_⟩, ⟨rfl, ?_⟩, ⟨rfl, ?_⟩, ⟨rfl, ?_⟩, ⟨rfl, ?_⟩, ⟨rfl, ?_⟩, ⟨rfl, ?_⟩, ⟨rfl, ?_⟩, ⟨rfl, ?_⟩, ⟨rfl, ?_⟩, ⟨rfl, ?_⟩, ⟨rfl, ?_⟩, trivial⟩ ?_
    · intro a w' K hB hd hs hK; have d0 : a.tmps.getD 0 undef = .pointer (some ⟨g, 0, none⟩) := hs 0 rfl; clear hd hs; go_simp; exact hK _ _ rfl (StB.refl _ _ _)
    · intro a w' K hB hd hs hK; have d0 : a.tmps.getD 0 undef = .pointer (some ⟨g, 0, none⟩) := hs 0 rfl; clear hd hs; go_simp; exact hK _ _ rfl (StB.refl _ _ _)
    · intro a w' K hB hd hs hK; have d0 : a.tmps.getD 0 undef = .pointer (some ⟨g, 0, none⟩) := hs 0 rfl; clear hd hs; go_simp; exact hK _ _ rfl (StB.refl _ _ _)
    · intro a w' K hB hd hs hK; have d0 : a.tmps.getD 0 undef = .pointer (some ⟨g, 0, none⟩) := hs 0 rfl; clear hd hs; go_simp; exact hK _ _ rfl (StB.refl _ _ _)
    · intro a w' K hB hd hs hK; have d0 : a.tmps.getD 0 undef = .pointer (some ⟨g, 0, none⟩) := hs 0 rfl; clear hd hs; go_simp; exact hK _ _ rfl (StB.refl _ _ _)
    · intro a w' K hB hd hs hK; have d0 : a.tmps.getD 0 undef = .pointer (some ⟨g, 0, none⟩) := hs 0 rfl; clear hd hs; go_simp; exact hK _ _ rfl (StB.refl _ _ _)
    · intro a w' K hB hd hs hK; have d0 : a.tmps.getD 0 undef = .pointer (some ⟨g, 0, none⟩) := hs 0 rfl; clear hd hs; go_simp; exact hK _ _ rfl (StB.refl _ _ _)
    · intro a w' K hB hd hs hK; have d0 : a.tmps.getD 0 undef = .pointer (some ⟨g, 0, none⟩) := hs 0 rfl; clear hd hs; go_simp; exact hK _ _ rfl (StB.refl _ _ _)
    · intro a w' K hB hd hs hK; have d1 : a.tmps.getD 1 undef = .pointer (some ⟨gx, 0, none⟩) := hs 1 rfl; clear hd hs; go_simp; exact hK _ _ rfl (StB.refl _ _ _)
    · intro a w' K hB hd hs hK; have d52 : a.tmps.getD 52 undef = .pointer (some ⟨gx, 0, none⟩) := hd 8 rfl; clear hd hs; go_simp; exact hK _ _ rfl (StB.refl _ _ _)
    · intro a w' K hB hd hs hK; have d53 : a.tmps.getD 53 undef = .pointer (some ⟨gx, 0, none⟩) := hd 9 rfl; clear hd hs; go_simp; exact hK _ _ rfl (StB.refl _ _ _)
    · intro a w' K hB hd hs hK; have d54 : a.tmps.getD 54 undef = .pointer (some ⟨gx, 0, none⟩) := hd 10 rfl; clear hd hs; have hcell : w'.cell? ⟨gx, 0, none⟩ = some (.int .u16 x1) := (World.cell?_of_block (a := ⟨gx, 0, none⟩) (hB.oth gx hnegx)).trans cgx0; go_simp; exact hK _ _ rfl (StB.refl _ _ _)
    · intro a w' K hB hd hs hK; have d55 : a.tmps.getD 55 undef = .int .u16 x1 := hd 11 rfl; clear hd hs; go_simp; first | exact hK _ _ rfl (StB.refl _ _ _) | exact hK _ _ (congrArg (Value.int .i64) (IntWalk.i64_in _ (by omega))) (StB.refl _ _ _)
    · intro a w' K hB hd hs hK; have d1 : a.tmps.getD 1 undef = .pointer (some ⟨gx, 0, none⟩) := hs 1 rfl; clear hd hs; go_simp; exact hK _ _ rfl (StB.refl _ _ _)
    · intro a w' K hB hd hs hK; have d57 : a.tmps.getD 57 undef = .pointer (some ⟨gx, 0, none⟩) := hd 13 rfl; clear hd hs; go_simp; exact hK _ _ rfl (StB.refl _ _ _)
    · intro a w' K hB hd hs hK; have d58 : a.tmps.getD 58 undef = .pointer (some ⟨gx, 0, none⟩) := hd 14 rfl; clear hd hs; go_simp; exact hK _ _ rfl (StB.refl _ _ _)
    · intro a w' K hB hd hs hK; have d59 : a.tmps.getD 59 undef = .pointer (some ⟨gx, 1, none⟩) := hd 15 rfl; clear hd hs; have hcell : w'.cell? ⟨gx, 1, none⟩ = some (.int .u8 x2) := (World.cell?_of_block (a := ⟨gx, 1, none⟩) (hB.oth gx hnegx)).trans cgx1; go_simp; exact hK _ _ rfl (StB.refl _ _ _)
    · intro a w' K hB hd hs hK; have d60 : a.tmps.getD 60 undef = .int .u8 x2 := hd 16 rfl; clear hd hs; go_simp; first | exact hK _ _ rfl (StB.refl _ _ _) | exact hK _ _ (congrArg (Value.int .i64) (IntWalk.i64_in _ (by omega))) (StB.refl _ _ _)
    · intro a w' K hB hd hs hK; have d1 : a.tmps.getD 1 undef = .pointer (some ⟨gx, 0, none⟩) := hs 1 rfl; clear hd hs; go_simp; exact hK _ _ rfl (StB.refl _ _ _)
    · intro a w' K hB hd hs hK; have d62 : a.tmps.getD 62 undef = .pointer (some ⟨gx, 0, none⟩) := hd 18 rfl; clear hd hs; go_simp; exact hK _ _ rfl (StB.refl _ _ _)
    · intro a w' K hB hd hs hK; have d63 : a.tmps.getD 63 undef = .pointer (some ⟨gx, 0, none⟩) := hd 19 rfl; clear hd hs; go_simp; exact hK _ _ rfl (StB.refl _ _ _)
    · intro a w' K hB hd hs hK; have d64 : a.tmps.getD 64 undef = .pointer (some ⟨gx, 2, none⟩) := hd 20 rfl; clear hd hs; have hcell : w'.cell? ⟨gx, 2, none⟩ = some (.int .u16 x3) := (World.cell?_of_block (a := ⟨gx, 2, none⟩) (hB.oth gx hnegx)).trans cgx2; go_simp; exact hK _ _ rfl (StB.refl _ _ _)
    · intro a w' K hB hd hs hK; have d65 : a.tmps.getD 65 undef = .int .u16 x3 := hd 21 rfl; clear hd hs; go_simp; first | exact hK _ _ rfl (StB.refl _ _ _) | exact hK _ _ (congrArg (Value.int .i64) (IntWalk.i64_in _ (by omega))) (StB.refl _ _ _)
    · intro a w' K hB hd hs hK; have d1 : a.tmps.getD 1 undef = .pointer (some ⟨gx, 0, none⟩) := hs 1 rfl; clear hd hs; go_simp; exact hK _ _ rfl (StB.refl _ _ _)
    · intro a w' K hB hd hs hK; have d67 : a.tmps.getD 67 undef = .pointer (some ⟨gx, 0, none⟩) := hd 23 rfl; clear hd hs; go_simp; exact hK _ _ rfl (StB.refl _ _ _)
    · intro a w' K hB hd hs hK; have d68 : a.tmps.getD 68 undef = .pointer (some ⟨gx, 0, none⟩) := hd 24 rfl; clear hd hs; go_simp; exact hK _ _ rfl (StB.refl _ _ _)
    · intro a w' K hB hd hs hK; have d69 : a.tmps.getD 69 undef = .pointer (some ⟨gx, 3, none⟩) := hd 25 rfl; clear hd hs; have hcell : w'.cell? ⟨gx, 3, none⟩ = some (.int .u8 x4) := (World.cell?_of_block (a := ⟨gx, 3, none⟩) (hB.oth gx hnegx)).trans cgx3; go_simp; exact hK _ _ rfl (StB.refl _ _ _)
    · intro a w' K hB hd hs hK; have d70 : a.tmps.getD 70 undef = .int .u8 x4 := hd 26 rfl; clear hd hs; go_simp; first | exact hK _ _ rfl (StB.refl _ _ _) | exact hK _ _ (congrArg (Value.int .i64) (IntWalk.i64_in _ (by omega))) (StB.refl _ _ _)
    · intro a w' K hB hd hs hK; have d1 : a.tmps.getD 1 undef = .pointer (some ⟨gx, 0, none⟩) := hs 1 rfl; clear hd hs; go_simp; exact hK _ _ rfl (StB.refl _ _ _)
    · intro a w' K hB hd hs hK; have d72 : a.tmps.getD 72 undef = .pointer (some ⟨gx, 0, none⟩) := hd 28 rfl; clear hd hs; go_simp; exact hK _ _ rfl (StB.refl _ _ _)
    · intro a w' K hB hd hs hK; have d73 : a.tmps.getD 73 undef = .pointer (some ⟨gx, 0, none⟩) := hd 29 rfl; clear hd hs; go_simp; exact hK _ _ rfl (StB.refl _ _ _)
    · intro a w' K hB hd hs hK; have d74 : a.tmps.getD 74 undef = .pointer (some ⟨gx, 4, none⟩) := hd 30 rfl; clear hd hs; have hcell : w'.cell? ⟨gx, 4, none⟩ = some (.int .u16 x5) := (World.cell?_of_block (a := ⟨gx, 4, none⟩) (hB.oth gx hnegx)).trans cgx4; go_simp; exact hK _ _ rfl (StB.refl _ _ _)
    · intro a w' K hB hd hs hK; have d75 : a.tmps.getD 75 undef = .int .u16 x5 := hd 31 rfl; clear hd hs; go_simp; first | exact hK _ _ rfl (StB.refl _ _ _) | exact hK _ _ (congrArg (Value.int .i64) (IntWalk.i64_in _ (by omega))) (StB.refl _ _ _)
    · intro a w' K hB hd hs hK; have d1 : a.tmps.getD 1 undef = .pointer (some ⟨gx, 0, none⟩) := hs 1 rfl; clear hd hs; go_simp; exact hK _ _ rfl (StB.refl _ _ _)
    · intro a w' K hB hd hs hK; have d77 : a.tmps.getD 77 undef = .pointer (some ⟨gx, 0, none⟩) := hd 33 rfl; clear hd hs; go_simp; exact hK _ _ rfl (StB.refl _ _ _)
    · intro a w' K hB hd hs hK; have d78 : a.tmps.getD 78 undef = .pointer (some ⟨gx, 0, none⟩) := hd 34 rfl; clear hd hs; go_simp; exact hK _ _ rfl (StB.refl _ _ _)
    · intro a w' K hB hd hs hK; have d79 : a.tmps.getD 79 undef = .pointer (some ⟨gx, 5, none⟩) := hd 35 rfl; clear hd hs; have hcell : w'.cell? ⟨gx, 5, none⟩ = some (.int .u16 x6) := (World.cell?_of_block (a := ⟨gx, 5, none⟩) (hB.oth gx hnegx)).trans cgx5; go_simp; exact hK _ _ rfl (StB.refl _ _ _)
    · intro a w' K hB hd hs hK; have d80 : a.tmps.getD 80 undef = .int .u16 x6 := hd 36 rfl; clear hd hs; go_simp; first | exact hK _ _ rfl (StB.refl _ _ _) | exact hK _ _ (congrArg (Value.int .i64) (IntWalk.i64_in _ (by omega))) (StB.refl _ _ _)
    · intro a w' K hB hd hs hK; have d1 : a.tmps.getD 1 undef = .pointer (some ⟨gx, 0, none⟩) := hs 1 rfl; clear hd hs; go_simp; exact hK _ _ rfl (StB.refl _ _ _)
    · intro a w' K hB hd hs hK; have d82 : a.tmps.getD 82 undef = .pointer (some ⟨gx, 0, none⟩) := hd 38 rfl; clear hd hs; go_simp; exact hK _ _ rfl (StB.refl _ _ _)
    · intro a w' K hB hd hs hK; have d83 : a.tmps.getD 83 undef = .pointer (some ⟨gx, 0, none⟩) := hd 39 rfl; clear hd hs; go_simp; exact hK _ _ rfl (StB.refl _ _ _)
    · intro a w' K hB hd hs hK; have d84 : a.tmps.getD 84 undef = .pointer (some ⟨gx, 6, none⟩) := hd 40 rfl; clear hd hs; have hcell : w'.cell? ⟨gx, 6, none⟩ = some (.int .u8 x7) := (World.cell?_of_block (a := ⟨gx, 6, none⟩) (hB.oth gx hnegx)).trans cgx6; go_simp; exact hK _ _ rfl (StB.refl _ _ _)
    · intro a w' K hB hd hs hK; have d85 : a.tmps.getD 85 undef = .int .u8 x7 := hd 41 rfl; clear hd hs; go_simp; first | exact hK _ _ rfl (StB.refl _ _ _) | exact hK _ _ (congrArg (Value.int .i64) (IntWalk.i64_in _ (by omega))) (StB.refl _ _ _)
    · intro a w' K hB hd hs hK; have d1 : a.tmps.getD 1 undef = .pointer (some ⟨gx, 0, none⟩) := hs 1 rfl; clear hd hs; go_simp; exact hK _ _ rfl (StB.refl _ _ _)
    · intro a w' K hB hd hs hK; have d87 : a.tmps.getD 87 undef = .pointer (some ⟨gx, 0, none⟩) := hd 43 rfl; clear hd hs; go_simp; exact hK _ _ rfl (StB.refl _ _ _)
    · intro a w' K hB hd hs hK; have d88 : a.tmps.getD 88 undef = .pointer (some ⟨gx, 0, none⟩) := hd 44 rfl; clear hd hs; go_simp; exact hK _ _ rfl (StB.refl _ _ _)
    · intro a w' K hB hd hs hK; have d89 : a.tmps.getD 89 undef = .pointer (some ⟨gx, 7, none⟩) := hd 45 rfl; clear hd hs; have hcell : w'.cell? ⟨gx, 7, none⟩ = some (.int .u16 x8) := (World.cell?_of_block (a := ⟨gx, 7, none⟩) (hB.oth gx hnegx)).trans cgx7; go_simp; exact hK _ _ rfl (StB.refl _ _ _)
    · intro a w' K hB hd hs hK; have d90 : a.tmps.getD 90 undef = .int .u16 x8 := hd 46 rfl; clear hd hs; go_simp; first | exact hK _ _ rfl (StB.refl _ _ _) | exact hK _ _ (congrArg (Value.int .i64) (IntWalk.i64_in _ (by omega))) (StB.refl _ _ _)
    · intro a w' K hB hd hs hK; have d44 : a.tmps.getD 44 undef = .pointer (some ⟨g, 0, none⟩) := hd 0 rfl; clear hd hs; go_simp; exact hK _ _ rfl (StB.refl _ _ _)
    · intro a w' K hB hd hs hK; have d92 : a.tmps.getD 92 undef = .pointer (some ⟨g, 0, none⟩) := hd 48 rfl; clear hd hs; go_simp; exact hK _ _ rfl (StB.refl _ _ _)
    · intro a w' K hB hd hs hK; have d56 : a.tmps.getD 56 undef = .int .i64 x1 := hd 12 rfl; have d93 : a.tmps.getD 93 undef = .pointer (some ⟨g, 1, none⟩) := hd 49 rfl; clear hd hs; obtain ⟨u, hu⟩ : ∃ u, w'.cell? ⟨g, 1, none⟩ = some u := ⟨_, (cell_blkD 1 (by rw [hB.sz, hz0]; omega)).trans (Array.getElem?_eq_getElem (by rw [hB.sz, hz0]; omega))⟩; have hfz : w'.frozen? ⟨g, 1, none⟩ = false := frozen_blkD 1 (by rw [hB.sz, hz0]; omega); go_simp; exact hK undef _ ⟨_, rfl, by rw [blkD_setCell_same]; simp [hB.sz, hz0]⟩ (StB.set rfl (by rw [hB.sz, hz0]; omega))
    · intro a w' K hB hd hs hK; have d45 : a.tmps.getD 45 undef = .pointer (some ⟨g, 0, none⟩) := hd 1 rfl; clear hd hs; go_simp; exact hK _ _ rfl (StB.refl _ _ _)
    · intro a w' K hB hd hs hK; have d94 : a.tmps.getD 94 undef = .pointer (some ⟨g, 0, none⟩) := hd 51 rfl; clear hd hs; go_simp; exact hK _ _ rfl (StB.refl _ _ _)
    · intro a w' K hB hd hs hK; have d61 : a.tmps.getD 61 undef = .int .i64 x2 := hd 17 rfl; have d95 : a.tmps.getD 95 undef = .pointer (some ⟨g, 2, none⟩) := hd 52 rfl; clear hd hs; obtain ⟨u, hu⟩ : ∃ u, w'.cell? ⟨g, 2, none⟩ = some u := ⟨_, (cell_blkD 2 (by rw [hB.sz, hz0]; omega)).trans (Array.getElem?_eq_getElem (by rw [hB.sz, hz0]; omega))⟩; have hfz : w'.frozen? ⟨g, 2, none⟩ = false := frozen_blkD 2 (by rw [hB.sz, hz0]; omega); go_simp; exact hK undef _ ⟨_, rfl, by rw [blkD_setCell_same]; simp [hB.sz, hz0]⟩ (StB.set rfl (by rw [hB.sz, hz0]; omega))
    · intro a w' K hB hd hs hK; have d46 : a.tmps.getD 46 undef = .pointer (some ⟨g, 0, none⟩) := hd 2 rfl; clear hd hs; go_simp; exact hK _ _ rfl (StB.refl _ _ _)
    · intro a w' K hB hd hs hK; have d96 : a.tmps.getD 96 undef = .pointer (some ⟨g, 0, none⟩) := hd 54 rfl; clear hd hs; go_simp; exact hK _ _ rfl (StB.refl _ _ _)
    · intro a w' K hB hd hs hK; have d66 : a.tmps.getD 66 undef = .int .i64 x3 := hd 22 rfl; have d97 : a.tmps.getD 97 undef = .pointer (some ⟨g, 3, none⟩) := hd 55 rfl; clear hd hs; obtain ⟨u, hu⟩ : ∃ u, w'.cell? ⟨g, 3, none⟩ = some u := ⟨_, (cell_blkD 3 (by rw [hB.sz, hz0]; omega)).trans (Array.getElem?_eq_getElem (by rw [hB.sz, hz0]; omega))⟩; have hfz : w'.frozen? ⟨g, 3, none⟩ = false := frozen_blkD 3 (by rw [hB.sz, hz0]; omega); go_simp; exact hK undef _ ⟨_, rfl, by rw [blkD_setCell_same]; simp [hB.sz, hz0]⟩ (StB.set rfl (by rw [hB.sz, hz0]; omega))
    · intro a w' K hB hd hs hK; have d47 : a.tmps.getD 47 undef = .pointer (some ⟨g, 0, none⟩) := hd 3 rfl; clear hd hs; go_simp; exact hK _ _ rfl (StB.refl _ _ _)
    · intro a w' K hB hd hs hK; have d98 : a.tmps.getD 98 undef = .pointer (some ⟨g, 0, none⟩) := hd 57 rfl; clear hd hs; go_simp; exact hK _ _ rfl (StB.refl _ _ _)
    · intro a w' K hB hd hs hK; have d71 : a.tmps.getD 71 undef = .int .i64 x4 := hd 27 rfl; have d99 : a.tmps.getD 99 undef = .pointer (some ⟨g, 4, none⟩) := hd 58 rfl; clear hd hs; obtain ⟨u, hu⟩ : ∃ u, w'.cell? ⟨g, 4, none⟩ = some u := ⟨_, (cell_blkD 4 (by rw [hB.sz, hz0]; omega)).trans (Array.getElem?_eq_getElem (by rw [hB.sz, hz0]; omega))⟩; have hfz : w'.frozen? ⟨g, 4, none⟩ = false := frozen_blkD 4 (by rw [hB.sz, hz0]; omega); go_simp; exact hK undef _ ⟨_, rfl, by rw [blkD_setCell_same]; simp [hB.sz, hz0]⟩ (StB.set rfl (by rw [hB.sz, hz0]; omega))
    · intro a w' K hB hd hs hK; have d48 : a.tmps.getD 48 undef = .pointer (some ⟨g, 0, none⟩) := hd 4 rfl; clear hd hs; go_simp; exact hK _ _ rfl (StB.refl _ _ _)
    · intro a w' K hB hd hs hK; have d100 : a.tmps.getD 100 undef = .pointer (some ⟨g, 0, none⟩) := hd 60 rfl; clear hd hs; go_simp; exact hK _ _ rfl (StB.refl _ _ _)
    · intro a w' K hB hd hs hK; have d76 : a.tmps.getD 76 undef = .int .i64 x5 := hd 32 rfl; have d101 : a.tmps.getD 101 undef = .pointer (some ⟨g, 5, none⟩) := hd 61 rfl; clear hd hs; obtain ⟨u, hu⟩ : ∃ u, w'.cell? ⟨g, 5, none⟩ = some u := ⟨_, (cell_blkD 5 (by rw [hB.sz, hz0]; omega)).trans (Array.getElem?_eq_getElem (by rw [hB.sz, hz0]; omega))⟩; have hfz : w'.frozen? ⟨g, 5, none⟩ = false := frozen_blkD 5 (by rw [hB.sz, hz0]; omega); go_simp; exact hK undef _ ⟨_, rfl, by rw [blkD_setCell_same]; simp [hB.sz, hz0]⟩ (StB.set rfl (by rw [hB.sz, hz0]; omega))
    · intro a w' K hB hd hs hK; have d49 : a.tmps.getD 49 undef = .pointer (some ⟨g, 0, none⟩) := hd 5 rfl; clear hd hs; go_simp; exact hK _ _ rfl (StB.refl _ _ _)
    · intro a w' K hB hd hs hK; have d102 : a.tmps.getD 102 undef = .pointer (some ⟨g, 0, none⟩) := hd 63 rfl; clear hd hs; go_simp; exact hK _ _ rfl (StB.refl _ _ _)
    · intro a w' K hB hd hs hK; have d81 : a.tmps.getD 81 undef = .int .i64 x6 := hd 37 rfl; have d103 : a.tmps.getD 103 undef = .pointer (some ⟨g, 6, none⟩) := hd 64 rfl; clear hd hs; obtain ⟨u, hu⟩ : ∃ u, w'.cell? ⟨g, 6, none⟩ = some u := ⟨_, (cell_blkD 6 (by rw [hB.sz, hz0]; omega)).trans (Array.getElem?_eq_getElem (by rw [hB.sz, hz0]; omega))⟩; have hfz : w'.frozen? ⟨g, 6, none⟩ = false := frozen_blkD 6 (by rw [hB.sz, hz0]; omega); go_simp; exact hK undef _ ⟨_, rfl, by rw [blkD_setCell_same]; simp [hB.sz, hz0]⟩ (StB.set rfl (by rw [hB.sz, hz0]; omega))
    · intro a w' K hB hd hs hK; have d50 : a.tmps.getD 50 undef = .pointer (some ⟨g, 0, none⟩) := hd 6 rfl; clear hd hs; go_simp; exact hK _ _ rfl (StB.refl _ _ _)
    · intro a w' K hB hd hs hK; have d104 : a.tmps.getD 104 undef = .pointer (some ⟨g, 0, none⟩) := hd 66 rfl; clear hd hs; go_simp; exact hK _ _ rfl (StB.refl _ _ _)
    · intro a w' K hB hd hs hK; have d86 : a.tmps.getD 86 undef = .int .i64 x7 := hd 42 rfl; have d105 : a.tmps.getD 105 undef = .pointer (some ⟨g, 7, none⟩) := hd 67 rfl; clear hd hs; obtain ⟨u, hu⟩ : ∃ u, w'.cell? ⟨g, 7, none⟩ = some u := ⟨_, (cell_blkD 7 (by rw [hB.sz, hz0]; omega)).trans (Array.getElem?_eq_getElem (by rw [hB.sz, hz0]; omega))⟩; have hfz : w'.frozen? ⟨g, 7, none⟩ = false := frozen_blkD 7 (by rw [hB.sz, hz0]; omega); go_simp; exact hK undef _ ⟨_, rfl, by rw [blkD_setCell_same]; simp [hB.sz, hz0]⟩ (StB.set rfl (by rw [hB.sz, hz0]; omega))
    · intro a w' K hB hd hs hK; have d51 : a.tmps.getD 51 undef = .pointer (some ⟨g, 0, none⟩) := hd 7 rfl; clear hd hs; go_simp; exact hK _ _ rfl (StB.refl _ _ _)
    · intro a w' K hB hd hs hK; have d106 : a.tmps.getD 106 undef = .pointer (some ⟨g, 0, none⟩) := hd 69 rfl; clear hd hs; go_simp; exact hK _ _ rfl (StB.refl _ _ _)
    · intro a w' K hB hd hs hK; have d91 : a.tmps.getD 91 undef = .int .i64 x8 := hd 47 rfl; have d107 : a.tmps.getD 107 undef = .pointer (some ⟨g, 8, none⟩) := hd 70 rfl; clear hd hs; obtain ⟨u, hu⟩ : ∃ u, w'.cell? ⟨g, 8, none⟩ = some u := ⟨_, (cell_blkD 8 (by rw [hB.sz, hz0]; omega)).trans (Array.getElem?_eq_getElem (by rw [hB.sz, hz0]; omega))⟩; have hfz : w'.frozen? ⟨g, 8, none⟩ = false := frozen_blkD 8 (by rw [hB.sz, hz0]; omega); go_simp; exact hK undef _ ⟨_, rfl, by rw [blkD_setCell_same]; simp [hB.sz, hz0]⟩ (StB.set rfl (by rw [hB.sz, hz0]; omega))
    · intro a W8 hB8 hsz hdf hf hs
      have q1 : (blkD W8 g)[1]? = some (.int .i64 x1) := by obtain ⟨x, hx, hc⟩ := hf 50 rfl; cases hx; exact hc
      have q2 : (blkD W8 g)[2]? = some (.int .i64 x2) := by obtain ⟨x, hx, hc⟩ := hf 53 rfl; cases hx; exact hc
      have q3 : (blkD W8 g)[3]? = some (.int .i64 x3) := by obtain ⟨x, hx, hc⟩ := hf 56 rfl; cases hx; exact hc
      have q4 : (blkD W8 g)[4]? = some (.int .i64 x4) := by obtain ⟨x, hx, hc⟩ := hf 59 rfl; cases hx; exact hc
      have q5 : (blkD W8 g)[5]? = some (.int .i64 x5) := by obtain ⟨x, hx, hc⟩ := hf 62 rfl; cases hx; exact hc
      have q6 : (blkD W8 g)[6]? = some (.int .i64 x6) := by obtain ⟨x, hx, hc⟩ := hf 65 rfl; cases hx; exact hc
      have q7 : (blkD W8 g)[7]? = some (.int .i64 x7) := by obtain ⟨x, hx, hc⟩ := hf 68 rfl; cases hx; exact hc
      have q8 : (blkD W8 g)[8]? = some (.int .i64 x8) := by obtain ⟨x, hx, hc⟩ := hf 71 rfl; cases hx; exact hc
      have hact : a = ⟨#[.pointer (some ⟨g, 0, none⟩), .pointer (some ⟨gx, 0, none⟩), .pointer (some ⟨gy, 0, none⟩), sl a 3, sl a 4, sl a 5, sl a 6, sl a 7, sl a 8, sl a 9, sl a 10, sl a 11, sl a 12, sl a 13, sl a 14, sl a 15, sl a 16, sl a 17, sl a 18, sl a 19, sl a 20, sl a 21, sl a 22, sl a 23, sl a 24, sl a 25, sl a 26, sl a 27, sl a 28, sl a 29, sl a 30, sl a 31, sl a 32, sl a 33, sl a 34, sl a 35, sl a 36, sl a 37, sl a 38, sl a 39, sl a 40, sl a 41, sl a 42, sl a 43, sl a 44, sl a 45, sl a 46, sl a 47, sl a 48, sl a 49, sl a 50, sl a 51, sl a 52, sl a 53, sl a 54, sl a 55, sl a 56, sl a 57, sl a 58, sl a 59, sl a 60, sl a 61, sl a 62, sl a 63, sl a 64, sl a 65, sl a 66, sl a 67, sl a 68, sl a 69, sl a 70, sl a 71, sl a 72, sl a 73, sl a 74, sl a 75, sl a 76, sl a 77, sl a 78, sl a 79, sl a 80, sl a 81, sl a 82, sl a 83, sl a 84, sl a 85, sl a 86, sl a 87, sl a 88, sl a 89, sl a 90, sl a 91, sl a 92, sl a 93, sl a 94, sl a 95, sl a 96, sl a 97, sl a 98, sl a 99, sl a 100, sl a 101, sl a 102, sl a 103, sl a 104, sl a 105, sl a 106, sl a 107], []⟩ := act_of (by rw [hsz]; rfl) hdf ⟨hs 0 rfl, hs 1 rfl, hs 2 rfl, rfl, rfl, rfl, rfl, rfl, rfl, rfl, rfl, rfl, rfl, rfl, rfl, rfl, rfl, rfl, rfl, rfl, rfl, rfl, rfl, rfl, rfl, rfl, rfl, rfl, rfl, rfl, rfl, rfl, rfl, rfl, rfl, rfl, rfl, rfl, rfl, rfl, rfl, rfl, rfl, rfl, rfl, rfl, rfl, rfl, rfl, rfl, rfl, rfl, rfl, rfl, rfl, rfl, rfl, rfl, rfl, rfl, rfl, rfl, rfl, rfl, rfl, rfl, rfl, rfl, rfl, rfl, rfl, rfl, rfl, rfl, rfl, rfl, rfl, rfl, rfl, rfl, rfl, rfl, rfl, rfl, rfl, rfl, rfl, rfl, rfl, rfl, rfl, rfl, rfl, rfl, rfl, rfl, rfl, rfl, rfl, rfl, rfl, rfl, rfl, rfl, rfl, rfl, rfl, rfl, trivial⟩
      clear hsz hdf hf hs
      rw [hact]
      clear hact
      have hall : blkD W8 g = #[k0, .int .i64 x1, .int .i64 x2, .int .i64 x3, .int .i64 x4, .int .i64 x5, .int .i64 x6, .int .i64 x7, .int .i64 x8, .int .i64 x9, .int .i64 x10, .int .i64 x11, .int .i64 x12, k13, k14, k15, k16, k17, k18] := hB8.all HALL.out (by
        intro i x hx
        rcases (show i = 0 ∨ i = 1 ∨ i = 2 ∨ i = 3 ∨ i = 4 ∨ i = 5 ∨ i = 6 ∨ i = 7 ∨ i = 8 ∨ i = 9 ∨ i = 10 ∨ i = 11 ∨ i = 12 ∨ i = 13 ∨ i = 14 ∨ i = 15 ∨ i = 16 ∨ i = 17 ∨ i = 18 ∨ 19 ≤ i from by omega) with rfl | rfl | rfl | rfl | rfl | rfl | rfl | rfl | rfl | rfl | rfl | rfl | rfl | rfl | rfl | rfl | rfl | rfl | rfl | hi
        · cases hx
        · cases hx; exact q1
        · cases hx; exact q2
        · cases hx; exact q3
        · cases hx; exact q4
        · cases hx; exact q5
        · cases hx; exact q6
        · cases hx; exact q7
        · cases hx; exact q8
        · cases hx
        · cases hx
        · cases hx
        · cases hx
        · cases hx
        · cases hx
        · cases hx
        · cases hx
        · cases hx
        · cases hx
        · rw [List.getD_eq_getElem?_getD, List.getElem?_eq_none (by simpa using hi)] at hx; cases hx) rfl (by
        intro i hi
        have hi' : i < 19 := hi
        rcases (show i = 0 ∨ i = 1 ∨ i = 2 ∨ i = 3 ∨ i = 4 ∨ i = 5 ∨ i = 6 ∨ i = 7 ∨ i = 8 ∨ i = 9 ∨ i = 10 ∨ i = 11 ∨ i = 12 ∨ i = 13 ∨ i = 14 ∨ i = 15 ∨ i = 16 ∨ i = 17 ∨ i = 18 from by omega) with rfl | rfl | rfl | rfl | rfl | rfl | rfl | rfl | rfl | rfl | rfl | rfl | rfl | rfl | rfl | rfl | rfl | rfl | rfl
        all_goals rfl)
      go_wp2
      go_end0
      exact ⟨rfl, hall, fun B hBg => hB8.below (HB7.out.below (Below.refl _ _) hBg) hBg, fun k hk => (hB8.blk hk).trans (HB7.out.blk hk)⟩
end Go.Proofs.Yteklgajjclldkaa
