/- Walks of Set, Clear, IsSet, and of the bitmap's FromBytes. -/
import Derived.Test.YtbajengoblcmnaaN2
namespace Go.Proofs.Ytbajengoblcmnaa
open Go.RowKit
set_option linter.unusedVariables false

theorem BmAt.store {w : World} {g h : Nat} {ys : List Int} (b : BmAt w g h ys) (i : Nat) (x : Int) (hx : 0 ≤ x ∧ x < 256) : BmAt (w.setCell ⟨h, i, none⟩ (.int .u8 x)) g h (ys.set i x) := by
  refine ⟨?_, ?_, b.byt.put _ hx⟩
  · rw [heap_setCell_other _ _ _ _ b.ne, List.length_set]
    exact b.ptr
  · rw [heap_setCell_same _ _ _ _ _ _ b.row]
    congr 2
    apply Array.ext'
    simp [byteRow, List.map_set]
theorem xorB {j : Nat} (hj : j < 8) : bits BinOp.xor IntKind.u8 IntKind.u8.max (2 ^ j % 256) = 255 - 2 ^ j % 256 := by
  revert j
  decide +kernel
theorem and_eq {b : Int} (h0 : 0 ≤ b) (h1 : b < 256) {j : Nat} (hj : j < 8) : (bits BinOp.and IntKind.u8 b (2 ^ j % 256) == 2 ^ j % 256) = bt b j := by
  obtain ⟨n, hn, rfl⟩ := byte_ex h0 h1
  clear h0 h1
  revert n j
  decide +kernel
theorem set_in (g h : Nat) (ys : List Int) (p : Nat) (w : World) (hb : BmAt w g h ys) (hn : ys.length ≤ 1000) (hp : p < 8 * ys.length) :
    Calls Try.prog 17 #[.pointer (some ⟨g, 0, none⟩), .int .i64 (p : Int)] w fun e w' => e = .returned .nilIface ∧ w' = w.setCell ⟨h, p / 8, none⟩ (.int .u8 (orB (ys.getD (p / 8) 0) (p % 8))) := by
  obtain ⟨y, hy⟩ : ∃ y, y = ys.getD (p / 8) 0 := ⟨_, rfl⟩
  have hyb := hb.byt.at (i := p / 8) (by omega)
  have hc := hb.cell
  have ha := hb.at (p / 8) (by omega)
  have hf := hb.frz (p / 8)
  have h0 : ¬ (p : Int) < 0 := by omega
  have h1 : ¬ ((p / 8 : Nat) : Int) ≥ (ys.length : Int) := by omega
  have h1' : ¬ ((p / 8 : Nat) : Int) > (ys.length : Int) := by omega
  have h2 : p / 8 < ys.length := by omega
  have hbt : bitAt ys p = bt y (p % 8) := by rw [bitAt_bt, hy]
  rw [← hy] at ha hyb ⊢
  have HBT := Lib.hid hbt
  clear hb hy hbt
  go_enter Try.func17, Try.ntmps17
  go_wp2_with fail
  refine (find_any p w (by omega)).mono ?_
  rintro e w' ⟨rfl, rfl⟩
  go_wp2
  go_ret
  exact ⟨rfl, rfl⟩
theorem clear_in (g h : Nat) (ys : List Int) (p : Nat) (w : World) (hb : BmAt w g h ys) (hn : ys.length ≤ 1000) (hp : p < 8 * ys.length) :
    Calls Try.prog 18 #[.pointer (some ⟨g, 0, none⟩), .int .i64 (p : Int)] w fun e w' => e = .returned .nilIface ∧ w' = w.setCell ⟨h, p / 8, none⟩ (.int .u8 (clB (ys.getD (p / 8) 0) (p % 8))) := by
  obtain ⟨y, hy⟩ : ∃ y, y = ys.getD (p / 8) 0 := ⟨_, rfl⟩
  have hyb := hb.byt.at (i := p / 8) (by omega)
  have hc := hb.cell
  have ha := hb.at (p / 8) (by omega)
  have hf := hb.frz (p / 8)
  have h0 : ¬ (p : Int) < 0 := by omega
  have h1 : ¬ ((p / 8 : Nat) : Int) ≥ (ys.length : Int) := by omega
  have h1' : ¬ ((p / 8 : Nat) : Int) > (ys.length : Int) := by omega
  have h2 : p / 8 < ys.length := by omega
  have hbt : bitAt ys p = bt y (p % 8) := by rw [bitAt_bt, hy]
  rw [← hy] at ha hyb ⊢
  have HBT := Lib.hid hbt
  clear hb hy hbt
  go_enter Try.func18, Try.ntmps18
  go_wp2_with fail
  refine (find_any p w (by omega)).mono ?_
  rintro e w' ⟨rfl, rfl⟩
  go_wp2
  go_ret
  rw [xorB (by omega)]
  exact ⟨rfl, rfl⟩
theorem isset_in (g h : Nat) (ys : List Int) (p : Nat) (w : World) (hb : BmAt w g h ys) (hn : ys.length ≤ 1000) (hp : p < 8 * ys.length) :
    Calls Try.prog 20 #[.pointer (some ⟨g, 0, none⟩), .int .i64 (p : Int)] w fun e w' => e = .returned (.tuple #[.bool (bitAt ys p), .nilIface]) ∧ w = w' := by
  obtain ⟨y, hy⟩ : ∃ y, y = ys.getD (p / 8) 0 := ⟨_, rfl⟩
  have hyb := hb.byt.at (i := p / 8) (by omega)
  have hc := hb.cell
  have ha := hb.at (p / 8) (by omega)
  have hf := hb.frz (p / 8)
  have h0 : ¬ (p : Int) < 0 := by omega
  have h1 : ¬ ((p / 8 : Nat) : Int) ≥ (ys.length : Int) := by omega
  have h1' : ¬ ((p / 8 : Nat) : Int) > (ys.length : Int) := by omega
  have h2 : p / 8 < ys.length := by omega
  have hbt : bitAt ys p = bt y (p % 8) := by rw [bitAt_bt, hy]
  rw [← hy] at ha hyb
  rw [hbt]
  clear hb hy hbt
  go_enter Try.func20, Try.ntmps20
  go_wp2_with fail
  refine (find_any p w (by omega)).mono ?_
  rintro e w' ⟨rfl, rfl⟩
  go_wp2
  rw [and_eq hyb.1 hyb.2 (by omega)]
  go_ret2
  exact ⟨rfl, rfl⟩
theorem set_neg (g : Nat) (at_ : Int) (w : World) (hneg : at_ < 0) : Calls Try.prog 17 #[.pointer (some ⟨g, 0, none⟩), .int .i64 at_] w fun e w' => ∃ v, e = .returned v ∧ IsErr v ∧ Below w.heap.size w w' := by
  go_enter Try.func17, Try.ntmps17
  go_wp2_with fail
  refine (err_any _ w).mono ?_
  rintro e w1 ⟨v, rfl, hv, hb1⟩
  go_wp2
  go_ret
  exact ⟨v, rfl, hv, hb1⟩
theorem set_out (g h : Nat) (ys : List Int) (p : Nat) (w : World) (hb : BmAt w g h ys) (hn : ys.length ≤ 1000) (hp : 8 * ys.length ≤ p) (hp2 : (p : Int) ≤ 9223372036854775807) :
    Calls Try.prog 17 #[.pointer (some ⟨g, 0, none⟩), .int .i64 (p : Int)] w fun e w' => ∃ v, e = .returned v ∧ IsErr v ∧ Below w.heap.size w w' := by
  have hc := hb.cell
  have h0 : ¬ (p : Int) < 0 := by omega
  have h1 : ((p / 8 : Nat) : Int) ≥ (ys.length : Int) := by omega
  clear hb
  go_enter Try.func17, Try.ntmps17
  go_wp2_with fail
  refine (find_any p w (by omega)).mono ?_
  rintro e w' ⟨rfl, rfl⟩
  go_wp2_with fail
  refine (err_any _ _).mono ?_
  rintro e w1 ⟨v, rfl, hv, hb1⟩
  go_wp2
  go_ret
  exact ⟨v, rfl, hv, hb1⟩
theorem clear_neg (g : Nat) (at_ : Int) (w : World) (hneg : at_ < 0) : Calls Try.prog 18 #[.pointer (some ⟨g, 0, none⟩), .int .i64 at_] w fun e w' => ∃ v, e = .returned v ∧ IsErr v ∧ Below w.heap.size w w' := by
  go_enter Try.func18, Try.ntmps18
  go_wp2_with fail
  refine (err_any _ w).mono ?_
  rintro e w1 ⟨v, rfl, hv, hb1⟩
  go_wp2
  go_ret
  exact ⟨v, rfl, hv, hb1⟩
theorem clear_out (g h : Nat) (ys : List Int) (p : Nat) (w : World) (hb : BmAt w g h ys) (hn : ys.length ≤ 1000) (hp : 8 * ys.length ≤ p) (hp2 : (p : Int) ≤ 9223372036854775807) :
    Calls Try.prog 18 #[.pointer (some ⟨g, 0, none⟩), .int .i64 (p : Int)] w fun e w' => ∃ v, e = .returned v ∧ IsErr v ∧ Below w.heap.size w w' := by
  have hc := hb.cell
  have h0 : ¬ (p : Int) < 0 := by omega
  have h1 : ((p / 8 : Nat) : Int) ≥ (ys.length : Int) := by omega
  clear hb
  go_enter Try.func18, Try.ntmps18
  go_wp2_with fail
  refine (find_any p w (by omega)).mono ?_
  rintro e w' ⟨rfl, rfl⟩
  go_wp2_with fail
  refine (err_any _ _).mono ?_
  rintro e w1 ⟨v, rfl, hv, hb1⟩
  go_wp2
  go_ret
  exact ⟨v, rfl, hv, hb1⟩
theorem isset_neg (g : Nat) (at_ : Int) (w : World) (hneg : at_ < 0) : Calls Try.prog 20 #[.pointer (some ⟨g, 0, none⟩), .int .i64 at_] w fun e w' => ∃ v, e = .returned (.tuple #[.bool false, v]) ∧ IsErr v ∧ Below w.heap.size w w' := by
  go_enter Try.func20, Try.ntmps20
  go_wp2_with fail
  refine (err_any _ w).mono ?_
  rintro e w1 ⟨v, rfl, hv, hb1⟩
  go_wp2
  go_ret2
  exact ⟨v, rfl, hv, hb1⟩
theorem isset_out (g h : Nat) (ys : List Int) (p : Nat) (w : World) (hb : BmAt w g h ys) (hn : ys.length ≤ 1000) (hp : 8 * ys.length + 8 ≤ p) (hp2 : (p : Int) ≤ 9223372036854775807) :
    Calls Try.prog 20 #[.pointer (some ⟨g, 0, none⟩), .int .i64 (p : Int)] w fun e w' => ∃ v, e = .returned (.tuple #[.bool false, v]) ∧ IsErr v ∧ Below w.heap.size w w' := by
  have hc := hb.cell
  have h0 : ¬ (p : Int) < 0 := by omega
  have h1 : ((p / 8 : Nat) : Int) > (ys.length : Int) := by omega
  clear hb
  go_enter Try.func20, Try.ntmps20
  go_wp2_with fail
  refine (find_any p w (by omega)).mono ?_
  rintro e w' ⟨rfl, rfl⟩
  go_wp2_with fail
  refine (err_any _ _).mono ?_
  rintro e w1 ⟨v, rfl, hv, hb1⟩
  go_wp2
  go_ret2
  exact ⟨v, rfl, hv, hb1⟩
/-- the bitmap takes other bytes -/
theorem mfrom_any (g h g2 c2 : Nat) (ys zs : List Int) (w : World) (hb : BmAt w g h ys) (hs : Src w g2 zs) (hg2 : g2 < w.heap.size) (hne : g2 ≠ g) (hz : Byt zs) (hn : zs.length ≤ 1000) (B : Nat) (hB : B ≤ g) :
    Calls Try.prog 24 #[.pointer (some ⟨g, 0, none⟩), .slice (some ⟨g2, 0, none⟩) zs.length c2] w fun e w' => e = .returned (.tuple #[]) ∧ BmAt w' g w.heap.size zs ∧ Below B w w' ∧ (∀ k, k < w.heap.size → k ≠ g → w'.heap[k]? = w.heap[k]?) := by
  have hmk := mk_byte zs.length (by omega)
  have hc := hb.cell
  have hlt := hb.lt.1
  have hf : w.frozen? ⟨g, 0, none⟩ = false := frozen_of_row _ _ 0 _ _ hb.ptr
  have hs2 : Src (w.setCell ⟨g, 0, none⟩ (.slice (some ⟨w.heap.size, 0, none⟩) zs.length zs.length)) g2 zs := fun i hi => (World.cell?_setCell_other _ _ _ _ (by intro e; cases e; exact hne rfl)).trans (hs i hi)
  have hcp := run_copy_src ((w.setCell ⟨g, 0, none⟩ (.slice (some ⟨w.heap.size, 0, none⟩) zs.length zs.length)).alloc (.cells (byteRow (List.replicate zs.length 0)) 5)) w.heap.size zs.length g2 c2 3 _ zs (heap_new (by simp)) (by rw [byteRow_size, List.length_replicate]) (hs2.past _ (by simpa using hg2))
  have hpt := hb.ptr
  clear hs hs2 hb
  go_enter Try.func24, Try.ntmps24
  go_wp2
  go_end0
  refine ⟨rfl, ⟨?_, ?_, hz⟩, ?_, ?_⟩
  · rw [Below.heap_alloc _ _ _ (by simpa using hlt)]
    rw [heap_setCell_same _ _ _ _ _ _ hpt]
    rfl
  · exact heap_new (by simp)
  · exact ((Below.refl _ _).setCell (p := ⟨g, 0, none⟩) hB _).alloc (by simp; omega) _
  · intro k hk hkg
    rw [Below.heap_alloc _ _ _ (by simpa using hk), heap_setCell_other _ _ _ _ hkg]
end Go.Proofs.Ytbajengoblcmnaa
