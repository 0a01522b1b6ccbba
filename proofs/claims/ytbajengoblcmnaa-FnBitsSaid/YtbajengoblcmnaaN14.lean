/- Walks of the model's Do: a bit is set or cleared in a copy of the bits. -/
import Derived.Test.YtbajengoblcmnaaN13
namespace Go.Proofs.Ytbajengoblcmnaa
open Go.RowKit
set_option linter.unusedVariables false

theorem bools_len (l : List Bool) : (bools l).length = l.length := by simp [bools]
theorem bools_one (l : List Bool) : ∀ u ∈ bools l, u.oneCell' = true := fun u hu => by
  obtain ⟨b, _, rfl⟩ := List.mem_map.1 hu
  rfl
theorem bools_set (l : List Bool) (p : Nat) (b : Bool) : bools (l.set p b) = (bools l).set p (.bool b) := by simp [bools, List.map_set]
theorem bools_src {w : World} {g : Nat} {bs : List Bool} (h : BoolsAt w (some ⟨g, 0, none⟩) bs) : ∀ j u, (bools bs)[j]? = some u → w.cell? ((⟨g, 0, none⟩ : Addr).add j) = some u := fun j u hj => by
  have hj2 : j < bs.length := by
    rcases Nat.lt_or_ge j bs.length with hh | hh
    · exact hh
    · rw [List.getElem?_eq_none (by rw [bools_len]; exact hh)] at hj; cases hj
  obtain ⟨g', e, _, hc⟩ := h j hj2
  cases e
  have hp : (⟨g, 0, none⟩ : Addr).add j = ⟨g, j, none⟩ := by
    simp [Addr.add]
    exact fun e => e.symm
  rw [hp, hc, ← hj, bools, List.getElem?_map, getD_get? (d := false) hj2]
  rfl

set_option maxHeartbeats 1000000 in
theorem do_set (A : Option Addr) (c : Nat) (ys : List Int) (p : Nat) (data : ByteArray) (w : World) (hy : Byt ys) (hm : ys.length ≤ 1000) (h : BoolsAt w A (bitsOf ys)) (hp : p < 8 * ys.length) :
    Calls Try.prog 6 #[.slice A (8 * ys.length) c, .agg #[.int .i64 0, .int .i64 p, .string data]] w (DoPost w ys 0 p data) := by
  obtain ⟨i0, hi, hz0, hz1, hz2⟩ := info_parts Try.infoO
  have HI := Lib.hid h
  obtain ⟨gA, rfl, hgA, -⟩ := h p (by rw [bitsOf_len]; exact hp)
  clear h
  have HB1 := Lib.hid hz2
  clear hz2
  obtain ⟨N, hN⟩ : ∃ N, N = 8 * ys.length := ⟨_, rfl⟩
  rw [← hN] at hp ⊢
  have HN := Lib.hid hN
  clear hN
  have hN1 : N ≤ 8000 := by have := HN.out; omega
  have c0 : (p : Int) ≥ 0 := by omega
  have c1 : (p : Int) < (N : Int) := by omega
  have hbW : ∀ o1 o2 o3, Below w.heap.size w (((w.alloc o1).alloc o2).alloc o3) := fun o1 o2 o3 => (((Below.refl w.heap.size _).alloc (Nat.le_refl _) _).alloc (by simp) _).alloc (by simp; omega) _
  have hown0 : ∀ o1 o2, (((w.alloc o1).alloc o2).alloc (.cells #[] 4)).ownsRow (w.heap.size + 2) 4 1 (.slice (some ⟨w.heap.size + 1 + 1, 0, none⟩) 0 0) 0 [] := fun o1 o2 => by
    have := World.ownsRow_made (base := w.heap.size + 2) (e := 4) (size := 1) ((w.alloc o1).alloc o2) #[] 0 (by simp) (by unfold maxLen; omega) rfl
    simpa using this
  have hsr : ∀ o1 o2 o3, ∀ j u, (bools (bitsOf ys))[j]? = some u → (((w.alloc o1).alloc o2).alloc o3).cell? ((⟨gA, 0, none⟩ : Addr).add j) = some u := fun o1 o2 o3 => bools_src (HI.out.below (hbW o1 o2 o3))
  have HSR := Lib.hid hsr
  have HO0 := Lib.hid hown0
  have HBW := Lib.hid hbW
  clear hsr hown0 hbW
  go_enter Try.func6, Try.ntmps6
  go_wp2_with (at_builtin; (refine wpList_append_own _ rfl _ _ 25 rfl (w.heap.size + 2) 4 i0 (.bool false) 1 1 Try.underlying25 hi hz0 hz1 HB1.out rfl (by decide) (.slice (some ⟨w.heap.size + 1 + 1, 0, none⟩) 0 0) 0 [] rfl (HO0.out _ _) ⟨gA, 0, none⟩ N c (bools (bitsOf ys)) rfl (by rw [bools_len, bitsOf_len, HN.out]; omega) (HSR.out _ _ _) (bools_one _) (by unfold maxLen; omega) (by omega) (by simp) ?_); intro v' w3 hown' hg3 hnil3; have hb3 := ((Below.refl (w.heap.size + 2) ((w.alloc _).alloc _)).alloc (by simp) _).grown hg3 (by simp) (fun j hj => by cases hj; exact Nat.le_refl _); have hs3 := hg3.size; simp only [World.size_alloc] at hs3; (rcases hown'.2 with ⟨-, hz⟩ | ⟨g1, cap, cur, hv, hB, hg, h1, h2, h3, h4⟩; exact absurd hz (by omega)); cases hv; (have kS : w3.heap[w.heap.size]? = some (.cells #[.int .i64 0, .int .i64 p, .string data] 29 (0, 0)) := (hb3.block w.heap.size (by omega)).trans ((Below.heap_alloc _ _ _ (by simp)).trans (heap_new rfl))); (have kW : w3.heap[w.heap.size + 1]? = some (.cells #[.bool true, .bool false, .int .i64 0, .slice none 0 0, .string ⟨#[]⟩] 33 (0, 0)) := (hb3.block (w.heap.size + 1) (by omega)).trans (heap_new (by simp))); have hbw := (((Below.refl w.heap.size _).alloc (Nat.le_refl _) _).alloc (by simp) _).trans (hb3.mono (by omega)); have m0 := cell_of_row _ _ 0 _ _ _ kS; have m1 := cell_of_row _ _ 1 _ _ _ kS; have k0 := cell_of_row _ _ 0 _ _ _ kW; have k1 := cell_of_row _ _ 1 _ _ _ kW; have k2 := cell_of_row _ _ 2 _ _ _ kW; have k3 := cell_of_row _ _ 3 _ _ _ kW; have k4 := cell_of_row _ _ 4 _ _ _ kW; have kf := fun i => frozen_of_row w3 (w.heap.size + 1) i _ _ kW; have hc3 : w3.cell? ⟨g1, p, none⟩ = (bools (bitsOf ys))[p]? := hown'.cellAt p (by omega); rw [bools, List.getElem?_map, bitsOf_get _ _ (by have := HN.out; omega)] at hc3; have hf3 := hown'.frozenAt p; have HOWN := Lib.hid hown'; have HBW3 := Lib.hid hbw; have KW := Lib.hid kW; clear hown' hbw hb3 kW kS h4 hg hg3 hnil3)
  have hrow : (w3.setCell ⟨g1, p, none⟩ (.bool true)).heap[w.heap.size + 1]? = some (.cells #[.bool true, .bool false, .int .i64 0, .slice none 0 0, .string ⟨#[]⟩] 33 (0, 0)) := by
    rw [heap_setCell_other _ _ _ _ (by show w.heap.size + 1 ≠ g1; omega)]
    exact KW.out
  have hst := (HOWN.out.stored p (.bool true)).1
  rw [List.nil_append, ← bools_set, ← bitsOf_set hy (by have := HN.out; omega), Nat.zero_add] at hst
  have hin : inB ys p := ⟨by omega, by have := HN.out; omega⟩
  have hbw2 : Below w.heap.size w (w3.setCell ⟨g1, p, none⟩ (.bool true)) := HBW3.out.setCell (p := ⟨g1, p, none⟩) (by show w.heap.size ≤ g1; omega) _
  have hB1 : w.heap.size + 1 < w.heap.size + 2 := by omega
  refine bodyPost_ret (results_five Try.results6 _ (.bool true) (.bool false) (.int .i64 0) (.slice none 0 0) (.string ⟨#[]⟩) hrow rfl (by rfl)) rfl ?_
  exact DoPost.mk (t := ⟨true, false, 0, [], ⟨#[]⟩⟩) (zs := ysSet ys p) (by simp [behind, hin]) (by rw [ysSet_len]; exact HN.out) rfl (by simp [tell, hin]) (BoolsAt.ofOwn' (own_five (B2 := 0) _ _ _ _ _ hst hB1 (Nat.zero_le _)) (by rw [bitsOf_len, ysSet_len]; exact HN.out.symm)) (TellAt.nil _ _ _ _ _ _) (five_below _ _ _ _ _ hbw2 (by omega))

set_option maxHeartbeats 1000000 in
theorem do_clr (A : Option Addr) (c : Nat) (ys : List Int) (p : Nat) (data : ByteArray) (w : World) (hy : Byt ys) (hm : ys.length ≤ 1000) (h : BoolsAt w A (bitsOf ys)) (hp : p < 8 * ys.length) :
    Calls Try.prog 6 #[.slice A (8 * ys.length) c, .agg #[.int .i64 1, .int .i64 p, .string data]] w (DoPost w ys 1 p data) := by
  obtain ⟨i0, hi, hz0, hz1, hz2⟩ := info_parts Try.infoO
  have HI := Lib.hid h
  obtain ⟨gA, rfl, hgA, -⟩ := h p (by rw [bitsOf_len]; exact hp)
  clear h
  have HB1 := Lib.hid hz2
  clear hz2
  obtain ⟨N, hN⟩ : ∃ N, N = 8 * ys.length := ⟨_, rfl⟩
  rw [← hN] at hp ⊢
  have HN := Lib.hid hN
  clear hN
  have hN1 : N ≤ 8000 := by have := HN.out; omega
  have c0 : (p : Int) ≥ 0 := by omega
  have c1 : (p : Int) < (N : Int) := by omega
  have hbW : ∀ o1 o2 o3, Below w.heap.size w (((w.alloc o1).alloc o2).alloc o3) := fun o1 o2 o3 => (((Below.refl w.heap.size _).alloc (Nat.le_refl _) _).alloc (by simp) _).alloc (by simp; omega) _
  have hown0 : ∀ o1 o2, (((w.alloc o1).alloc o2).alloc (.cells #[] 4)).ownsRow (w.heap.size + 2) 4 1 (.slice (some ⟨w.heap.size + 1 + 1, 0, none⟩) 0 0) 0 [] := fun o1 o2 => by
    have := World.ownsRow_made (base := w.heap.size + 2) (e := 4) (size := 1) ((w.alloc o1).alloc o2) #[] 0 (by simp) (by unfold maxLen; omega) rfl
    simpa using this
  have hsr : ∀ o1 o2 o3, ∀ j u, (bools (bitsOf ys))[j]? = some u → (((w.alloc o1).alloc o2).alloc o3).cell? ((⟨gA, 0, none⟩ : Addr).add j) = some u := fun o1 o2 o3 => bools_src (HI.out.below (hbW o1 o2 o3))
  have HSR := Lib.hid hsr
  have HO0 := Lib.hid hown0
  have HBW := Lib.hid hbW
  clear hsr hown0 hbW
  go_enter Try.func6, Try.ntmps6
  go_wp2_with (at_builtin; (refine wpList_append_own _ rfl _ _ 25 rfl (w.heap.size + 2) 4 i0 (.bool false) 1 1 Try.underlying25 hi hz0 hz1 HB1.out rfl (by decide) (.slice (some ⟨w.heap.size + 1 + 1, 0, none⟩) 0 0) 0 [] rfl (HO0.out _ _) ⟨gA, 0, none⟩ N c (bools (bitsOf ys)) rfl (by rw [bools_len, bitsOf_len, HN.out]; omega) (HSR.out _ _ _) (bools_one _) (by unfold maxLen; omega) (by omega) (by simp) ?_); intro v' w3 hown' hg3 hnil3; have hb3 := ((Below.refl (w.heap.size + 2) ((w.alloc _).alloc _)).alloc (by simp) _).grown hg3 (by simp) (fun j hj => by cases hj; exact Nat.le_refl _); have hs3 := hg3.size; simp only [World.size_alloc] at hs3; (rcases hown'.2 with ⟨-, hz⟩ | ⟨g1, cap, cur, hv, hB, hg, h1, h2, h3, h4⟩; exact absurd hz (by omega)); cases hv; (have kS : w3.heap[w.heap.size]? = some (.cells #[.int .i64 1, .int .i64 p, .string data] 29 (0, 0)) := (hb3.block w.heap.size (by omega)).trans ((Below.heap_alloc _ _ _ (by simp)).trans (heap_new rfl))); (have kW : w3.heap[w.heap.size + 1]? = some (.cells #[.bool true, .bool false, .int .i64 0, .slice none 0 0, .string ⟨#[]⟩] 33 (0, 0)) := (hb3.block (w.heap.size + 1) (by omega)).trans (heap_new (by simp))); have hbw := (((Below.refl w.heap.size _).alloc (Nat.le_refl _) _).alloc (by simp) _).trans (hb3.mono (by omega)); have m0 := cell_of_row _ _ 0 _ _ _ kS; have m1 := cell_of_row _ _ 1 _ _ _ kS; have k0 := cell_of_row _ _ 0 _ _ _ kW; have k1 := cell_of_row _ _ 1 _ _ _ kW; have k2 := cell_of_row _ _ 2 _ _ _ kW; have k3 := cell_of_row _ _ 3 _ _ _ kW; have k4 := cell_of_row _ _ 4 _ _ _ kW; have kf := fun i => frozen_of_row w3 (w.heap.size + 1) i _ _ kW; have hc3 : w3.cell? ⟨g1, p, none⟩ = (bools (bitsOf ys))[p]? := hown'.cellAt p (by omega); rw [bools, List.getElem?_map, bitsOf_get _ _ (by have := HN.out; omega)] at hc3; have hf3 := hown'.frozenAt p; have HOWN := Lib.hid hown'; have HBW3 := Lib.hid hbw; have KW := Lib.hid kW; clear hown' hbw hb3 kW kS h4 hg hg3 hnil3)
  have hrow : (w3.setCell ⟨g1, p, none⟩ (.bool false)).heap[w.heap.size + 1]? = some (.cells #[.bool true, .bool false, .int .i64 0, .slice none 0 0, .string ⟨#[]⟩] 33 (0, 0)) := by
    rw [heap_setCell_other _ _ _ _ (by show w.heap.size + 1 ≠ g1; omega)]
    exact KW.out
  have hst := (HOWN.out.stored p (.bool false)).1
  rw [List.nil_append, ← bools_set, ← bitsOf_clr hy (by have := HN.out; omega), Nat.zero_add] at hst
  have hin : inB ys p := ⟨by omega, by have := HN.out; omega⟩
  have hbw2 : Below w.heap.size w (w3.setCell ⟨g1, p, none⟩ (.bool false)) := HBW3.out.setCell (p := ⟨g1, p, none⟩) (by show w.heap.size ≤ g1; omega) _
  have hB1 : w.heap.size + 1 < w.heap.size + 2 := by omega
  refine bodyPost_ret (results_five Try.results6 _ (.bool true) (.bool false) (.int .i64 0) (.slice none 0 0) (.string ⟨#[]⟩) hrow rfl (by rfl)) rfl ?_
  exact DoPost.mk (t := ⟨true, false, 0, [], ⟨#[]⟩⟩) (zs := ysClr ys p) (by simp [behind, hin]) (by rw [ysClr_len]; exact HN.out) rfl (by simp [tell, hin]) (BoolsAt.ofOwn' (own_five (B2 := 0) _ _ _ _ _ hst hB1 (Nat.zero_le _)) (by rw [bitsOf_len, ysClr_len]; exact HN.out.symm)) (TellAt.nil _ _ _ _ _ _) (five_below _ _ _ _ _ hbw2 (by omega))
end Go.Proofs.Ytbajengoblcmnaa
