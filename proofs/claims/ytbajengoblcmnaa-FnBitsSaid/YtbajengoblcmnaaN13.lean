/- Walks of the model's Do: the kinds whose answer is another function's. -/
import Derived.Test.YtbajengoblcmnaaN12
namespace Go.Proofs.Ytbajengoblcmnaa
open Go.RowKit
set_option linter.unusedVariables false
theorem BoolsAt.ofOwn' {w : World} {B n c : Nat} {A : Option Addr} {bs : List Bool} (h : w.ownsRow B 4 1 (.slice A n c) n (bools bs)) (hn : bs.length = n) : BoolsAt w A bs := by
  obtain ⟨A2, c2, e, hb⟩ := BoolsAt.ofOwn h hn
  cases e
  exact hb
theorem bytes_anyN (A : Option Addr) (c N : Nat) (ys : List Int) (w : World) (hN : N = 8 * ys.length) (hy : Byt ys) (hm : ys.length ≤ 1000) (h : BoolsAt w A (bitsOf ys)) :
    Calls Try.prog 13 #[.slice A N c] w fun e w' => e = .returned (.string (strOfNums ys)) ∧ Below w.heap.size w w' := by
  subst hN
  exact bytes_any A c ys w hy hm h

set_option maxHeartbeats 1000000 in
theorem do_rows (A : Option Addr) (c : Nat) (ys : List Int) (at_ : Int) (data : ByteArray) (w : World) (hy : Byt ys) (hm : ys.length ≤ 1000) (h : BoolsAt w A (bitsOf ys)) :
    Calls Try.prog 6 #[.slice A (8 * ys.length) c, .agg #[.int .i64 5, .int .i64 at_, .string data]] w (DoPost w ys 5 at_ data) := by
  have HI := Lib.hid h
  clear h
  obtain ⟨N, hN⟩ : ∃ N, N = 8 * ys.length := ⟨_, rfl⟩
  rw [← hN]
  have HN := Lib.hid hN
  clear hN
  have hN1 : N ≤ 8000 := by have := HN.out; omega
  go_enter Try.func6, Try.ntmps6
  go_wp2_with fail
  all_goals (
    refine (free_any A N c (bitsOf ys) _ (by rw [bitsOf_len, HN.out]) (by omega) (HI.out.below (((Below.refl _ _).alloc (Nat.le_refl _) _).alloc (by simp) _))).mono ?_
    rintro e w1 ⟨⟨v, rfl, hown⟩, hb1⟩
    obtain ⟨A', c2, rfl⟩ := own_shape hown
    have HO := Lib.hid hown
    clear hown
    have hrow : w1.heap[w.heap.size + 1]? = some (.cells #[.bool true, .bool false, .int .i64 0, .slice none 0 0, .string ⟨#[]⟩] 33 (0, 0)) := by
      rw [hb1.block (w.heap.size + 1) (by simp)]
      exact heap_new (by simp)
    have k0 : w1.cell? ⟨w.heap.size + 1, 0, none⟩ = some (.bool true) := cell_of_row _ _ 0 _ _ _ hrow
    have k1 : w1.cell? ⟨w.heap.size + 1, 1, none⟩ = some (.bool false) := cell_of_row _ _ 1 _ _ _ hrow
    have k2 : w1.cell? ⟨w.heap.size + 1, 2, none⟩ = some (.int .i64 0) := cell_of_row _ _ 2 _ _ _ hrow
    have k3 : w1.cell? ⟨w.heap.size + 1, 3, none⟩ = some (.slice none 0 0) := cell_of_row _ _ 3 _ _ _ hrow
    have k4 : w1.cell? ⟨w.heap.size + 1, 4, none⟩ = some (.string ⟨#[]⟩) := cell_of_row _ _ 4 _ _ _ hrow
    have kf : ∀ i, w1.frozen? ⟨w.heap.size + 1, i, none⟩ = false := fun i => frozen_of_row _ _ i _ _ hrow
    have hbw : Below w.heap.size w w1 := (((Below.refl _ _).alloc (Nat.le_refl _) _).alloc (by simp) _).trans (hb1.mono (by simp; omega))
    have hB1 := hb1.size
    simp only [World.size_alloc] at hB1
    have HB1 := Lib.hid hb1
    have HBW := Lib.hid hbw
    have HROW := Lib.hid hrow
    clear hb1 hbw hrow
    go_wp2
    refine bodyPost_ret (results_five Try.results6 _ (.bool true) (.bool false) (.int .i64 0) (.slice A' (freeOf (bitsOf ys)).length c2) (.string ⟨#[]⟩) (heap_setCell_same _ _ 3 _ _ (.slice A' (freeOf (bitsOf ys)).length c2) HROW.out) (by simp) (by rfl)) rfl ?_
    exact DoPost.mk (t := ⟨true, false, 0, freeOf (bitsOf ys), ⟨#[]⟩⟩) rfl HN.out rfl rfl (HI.out.below (five_below _ _ _ _ _ (HBW.out.setCell (p := ⟨w.heap.size + 1, 3, none⟩) (by simp) _) (by simp))) ⟨_, rfl, own_five _ _ _ _ _ (own_setCell HO.out (by simp) (Nat.le_refl _)) (by simp) (by simp; omega)⟩ (five_below _ _ _ _ _ (HBW.out.setCell (p := ⟨w.heap.size + 1, 3, none⟩) (by simp) _) (by simp)))

set_option maxHeartbeats 1000000 in
theorem do_bytes (A : Option Addr) (c : Nat) (ys : List Int) (at_ : Int) (data : ByteArray) (w : World) (hy : Byt ys) (hm : ys.length ≤ 1000) (h : BoolsAt w A (bitsOf ys)) :
    Calls Try.prog 6 #[.slice A (8 * ys.length) c, .agg #[.int .i64 6, .int .i64 at_, .string data]] w (DoPost w ys 6 at_ data) := by
  have HI := Lib.hid h
  clear h
  obtain ⟨N, hN⟩ : ∃ N, N = 8 * ys.length := ⟨_, rfl⟩
  rw [← hN]
  have HN := Lib.hid hN
  clear hN
  have hN1 : N ≤ 8000 := by have := HN.out; omega
  go_enter Try.func6, Try.ntmps6
  go_wp2_with fail
  all_goals (
    refine (bytes_anyN A c N ys _ HN.out hy hm (HI.out.below (((Below.refl _ _).alloc (Nat.le_refl _) _).alloc (by simp) _))).mono ?_
    rintro e w1 ⟨rfl, hb1⟩
    have hrow : w1.heap[w.heap.size + 1]? = some (.cells #[.bool true, .bool false, .int .i64 0, .slice none 0 0, .string ⟨#[]⟩] 33 (0, 0)) := by
      rw [hb1.block (w.heap.size + 1) (by simp)]
      exact heap_new (by simp)
    have k0 : w1.cell? ⟨w.heap.size + 1, 0, none⟩ = some (.bool true) := cell_of_row _ _ 0 _ _ _ hrow
    have k1 : w1.cell? ⟨w.heap.size + 1, 1, none⟩ = some (.bool false) := cell_of_row _ _ 1 _ _ _ hrow
    have k2 : w1.cell? ⟨w.heap.size + 1, 2, none⟩ = some (.int .i64 0) := cell_of_row _ _ 2 _ _ _ hrow
    have k3 : w1.cell? ⟨w.heap.size + 1, 3, none⟩ = some (.slice none 0 0) := cell_of_row _ _ 3 _ _ _ hrow
    have k4 : w1.cell? ⟨w.heap.size + 1, 4, none⟩ = some (.string ⟨#[]⟩) := cell_of_row _ _ 4 _ _ _ hrow
    have kf : ∀ i, w1.frozen? ⟨w.heap.size + 1, i, none⟩ = false := fun i => frozen_of_row _ _ i _ _ hrow
    have hbw : Below w.heap.size w w1 := (((Below.refl _ _).alloc (Nat.le_refl _) _).alloc (by simp) _).trans (hb1.mono (by simp; omega))
    have hB1 := hb1.size
    simp only [World.size_alloc] at hB1
    have HB1 := Lib.hid hb1
    have HBW := Lib.hid hbw
    have HROW := Lib.hid hrow
    clear hb1 hbw hrow
    go_wp2
    refine bodyPost_ret (results_five Try.results6 _ (.bool true) (.bool false) (.int .i64 0) (.slice none 0 0) (.string (strOfNums ys)) (heap_setCell_same _ _ 4 _ _ (.string (strOfNums ys)) HROW.out) (by simp) (by rfl)) rfl ?_
    exact DoPost.mk (t := ⟨true, false, 0, [], strOfNums ys⟩) rfl HN.out rfl rfl (HI.out.below (five_below _ _ _ _ _ (HBW.out.setCell (p := ⟨w.heap.size + 1, 4, none⟩) (by simp) _) (by simp))) (TellAt.nil _ _ _ _ _ _) (five_below _ _ _ _ _ (HBW.out.setCell (p := ⟨w.heap.size + 1, 4, none⟩) (by simp) _) (by simp)))

set_option maxHeartbeats 1000000 in
theorem do_from (A : Option Addr) (c : Nat) (ys : List Int) (at_ : Int) (data : ByteArray) (w : World) (hy : Byt ys) (hm : ys.length ≤ 1000) (h : BoolsAt w A (bitsOf ys)) (hd : data.size ≤ 1000) :
    Calls Try.prog 6 #[.slice A (8 * ys.length) c, .agg #[.int .i64 7, .int .i64 at_, .string data]] w (DoPost w ys 7 at_ data) := by
  have HI := Lib.hid h
  clear h
  obtain ⟨N, hN⟩ : ∃ N, N = 8 * ys.length := ⟨_, rfl⟩
  rw [← hN]
  have HN := Lib.hid hN
  clear hN
  have hN1 : N ≤ 8000 := by have := HN.out; omega
  go_enter Try.func6, Try.ntmps6
  go_wp2_with fail
  all_goals (
    refine (bitsof_any data _ hd).mono ?_
    rintro e w1 ⟨⟨v, rfl, hown⟩, hb1⟩
    obtain ⟨A', c2, rfl⟩ := own_shape hown
    have HO := Lib.hid hown
    clear hown
    have hrow : w1.heap[w.heap.size + 1]? = some (.cells #[.bool true, .bool false, .int .i64 0, .slice none 0 0, .string ⟨#[]⟩] 33 (0, 0)) := by
      rw [hb1.block (w.heap.size + 1) (by simp)]
      exact heap_new (by simp)
    have k0 : w1.cell? ⟨w.heap.size + 1, 0, none⟩ = some (.bool true) := cell_of_row _ _ 0 _ _ _ hrow
    have k1 : w1.cell? ⟨w.heap.size + 1, 1, none⟩ = some (.bool false) := cell_of_row _ _ 1 _ _ _ hrow
    have k2 : w1.cell? ⟨w.heap.size + 1, 2, none⟩ = some (.int .i64 0) := cell_of_row _ _ 2 _ _ _ hrow
    have k3 : w1.cell? ⟨w.heap.size + 1, 3, none⟩ = some (.slice none 0 0) := cell_of_row _ _ 3 _ _ _ hrow
    have k4 : w1.cell? ⟨w.heap.size + 1, 4, none⟩ = some (.string ⟨#[]⟩) := cell_of_row _ _ 4 _ _ _ hrow
    have kf : ∀ i, w1.frozen? ⟨w.heap.size + 1, i, none⟩ = false := fun i => frozen_of_row _ _ i _ _ hrow
    have hbw : Below w.heap.size w w1 := (((Below.refl _ _).alloc (Nat.le_refl _) _).alloc (by simp) _).trans (hb1.mono (by simp; omega))
    have hB1 := hb1.size
    simp only [World.size_alloc] at hB1
    have HB1 := Lib.hid hb1
    have HBW := Lib.hid hbw
    have HROW := Lib.hid hrow
    clear hb1 hbw hrow
    go_wp2
    refine bodyPost_ret (results_five Try.results6 _ (.bool true) (.bool false) (.int .i64 0) (.slice none 0 0) (.string ⟨#[]⟩) HROW.out rfl (by rfl)) rfl ?_
    exact DoPost.mk (t := ⟨true, false, 0, [], ⟨#[]⟩⟩) (zs := numS data) rfl (by rw [numS_len]) rfl rfl (BoolsAt.ofOwn' (own_five (B2 := 0) _ _ _ _ _ HO.out (by simp) (Nat.zero_le _)) (by rw [bitsOf_len, numS_len])) (TellAt.nil _ _ _ _ _ _) (five_below _ _ _ _ _ HBW.out (by simp)))
end Go.Proofs.Ytbajengoblcmnaa
