/- Walk of the law FnBpbEqual. -/
import Derived.Test.YthocgjaloflclaaH
import Derived.Test.YthocgjaloflclaaI
import Derived.Deep.DeepCutAuto
namespace Go.Proofs.Ythocgjaloflclaa
open Go.RowKit
attribute [local go_sem ↓] Go.wp_at_zero Go.wp_at_succ
set_option linter.unusedVariables false

/-- what BpbEqual says of the two is what '==' says -/
theorem same_eq (x2 x3 x4 x5 x6 x7 x8 x9 x10 x11 x12 y2 y3 y4 y5 y6 y7 y8 y9 y10 y11 y12 : Int) :
    (eqB 512 x2 x3 x4 x5 x6 x7 x8 x9 x10 x11 x12 512 y2 y3 y4 y5 y6 y7 y8 y9 y10 y11 y12
      == eq19 331 512 x2 x3 x4 x5 x6 x7 x8 x9 x10 x11 x12 0 0 0 0 331 512 y2 y3 y4 y5 y6 y7 y8 y9 y10 y11 y12 0 0 0 0 ⟨#[]⟩ ⟨#[]⟩ ⟨#[]⟩ ⟨#[]⟩) = true := by
  simp [eqB, eq8, eq19, Bool.and_assoc]
theorem self_eq (x2 x3 x4 x5 x6 x7 x8 x9 x10 x11 x12 : Int) : eqB 512 x2 x3 x4 x5 x6 x7 x8 x9 x10 x11 x12 512 x2 x3 x4 x5 x6 x7 x8 x9 x10 x11 x12 = true := by
  simp [eqB, eq8]

def Met (w : World) (A B : Array Value) (s5 s6 : Value) (wx : World) : Prop :=
  ∃ g5 g6 : Nat, s5 = .pointer (some ⟨g5, 0, none⟩) ∧ s6 = .pointer (some ⟨g6, 0, none⟩) ∧ blkD wx g5 = A ∧ blkD wx g6 = B ∧ g5 < wx.heap.size ∧ g6 < wx.heap.size ∧ Below w.heap.size w wx

set_option maxRecDepth 100000 in
set_option maxHeartbeats 4000000 in
theorem law_equal_any (l0 l1 l2 l3 l4 l5 l6 l7 l8 l9 l10 l11 l12 l13 l14 l15 k0 k1 k2 k3 k4 k5 k6 k7 k8 k9 k10 k11 k12 k13 k14 k15 : Int) (w : World) (a9 : 0 ≤ l9) (b9 : l9 ≤ 4294967295) (a10 : 0 ≤ l10) (b10 : l10 ≤ 4294967295) (c9 : 0 ≤ k9) (d9 : k9 ≤ 4294967295) (c10 : 0 ≤ k10) (d10 : k10 ≤ 4294967295) :
    Calls Try.prog 4 #[.agg #[.int .u32 l0, .int .u32 l1, .int .u32 l2, .int .u32 l3, .int .u32 l4, .int .u32 l5, .int .u32 l6, .int .u32 l7, .int .u32 l8, .int .u32 l9, .int .u32 l10, .int .u32 l11, .int .u32 l12, .int .u32 l13, .int .u32 l14, .int .u32 l15], .agg #[.int .u32 k0, .int .u32 k1, .int .u32 k2, .int .u32 k3, .int .u32 k4, .int .u32 k5, .int .u32 k6, .int .u32 k7, .int .u32 k8, .int .u32 k9, .int .u32 k10, .int .u32 k11, .int .u32 k12, .int .u32 k13, .int .u32 k14, .int .u32 k15]] w fun e w' => e = .returned (.bool true) ∧ Below w.heap.size w w' := by
  go_enter Try.func4, Try.ntmps4
  go_upto_region 1 with (fail)
  go_cut [5, 6] (fun s5 s6 wx => Met w #[.int .i64 331, .int .i64 512, .int .i64 (m8 l0), .int .i64 (m16 l1), .int .i64 (m8 l2), .int .i64 (m16 l3), .int .i64 (m16 l4), .int .i64 (m8 l5), .int .i64 (m16 l6), .int .i64 (m16 l7), .int .i64 (m16 l8), .int .i64 l9, .int .i64 l10, .int .i64 0, .int .i64 0, .int .i64 0, .int .i64 0, .string ⟨#[]⟩, .string ⟨#[]⟩] #[.int .i64 331, .int .i64 512, .int .i64 (m8 k0), .int .i64 (m16 k1), .int .i64 (m8 k2), .int .i64 (m16 k3), .int .i64 (m16 k4), .int .i64 (m8 k5), .int .i64 (m16 k6), .int .i64 (m16 k7), .int .i64 (m16 k8), .int .i64 k9, .int .i64 k10, .int .i64 0, .int .i64 0, .int .i64 0, .int .i64 0, .string ⟨#[]⟩, .string ⟨#[]⟩] s5 s6 wx)
  case first =>
    refine wp_region_held_drew (S := (fun w' => blkD w' w.heap.size = #[.int .u32 l0, .int .u32 l1, .int .u32 l2, .int .u32 l3, .int .u32 l4, .int .u32 l5, .int .u32 l6, .int .u32 l7, .int .u32 l8, .int .u32 l9, .int .u32 l10, .int .u32 l11, .int .u32 l12, .int .u32 l13, .int .u32 l14, .int .u32 l15] ∧ blkD w' (w.heap.size + 1) = #[.int .u32 k0, .int .u32 k1, .int .u32 k2, .int .u32 k3, .int .u32 k4, .int .u32 k5, .int .u32 k6, .int .u32 k7, .int .u32 k8, .int .u32 k9, .int .u32 k10, .int .u32 k11, .int .u32 k12, .int .u32 k13, .int .u32 k14, .int .u32 k15])) (by kernel_rfl) ⟨by simp [go_sem], by simp [go_sem]⟩ (fun hHeld => ?_)
    refine wpAnyH_take (i := 0) (v := .agg #[.int .u32 l0, .int .u32 l1, .int .u32 l2, .int .u32 l3, .int .u32 l4, .int .u32 l5, .int .u32 l6, .int .u32 l7, .int .u32 l8, .int .u32 l9, .int .u32 l10, .int .u32 l11, .int .u32 l12, .int .u32 l13, .int .u32 l14, .int .u32 l15]) rfl (by kernel_rfl) (by kernel_rfl) (by kernel_rfl) (fun _ _ _ h => h) (Or.inl ⟨by rfl, ?_⟩) hHeld ?_
    · (intro w' hSw; (try dsimp only at hSw); obtain ⟨hSa, hSb⟩ := hSw; go_simp)
    simp only [Act.put, List.setIfInBounds_toArray, List.set_cons_zero, List.set_cons_succ]
    refine wpAnyH_take (i := 2) (v := .agg #[.int .u32 k0, .int .u32 k1, .int .u32 k2, .int .u32 k3, .int .u32 k4, .int .u32 k5, .int .u32 k6, .int .u32 k7, .int .u32 k8, .int .u32 k9, .int .u32 k10, .int .u32 k11, .int .u32 k12, .int .u32 k13, .int .u32 k14, .int .u32 k15]) rfl (by kernel_rfl) (by kernel_rfl) (by kernel_rfl) (fun _ _ _ h => h) (Or.inl ⟨by rfl, ?_⟩) hHeld ?_
    · (intro w' hSw; (try dsimp only at hSw); obtain ⟨hSa, hSb⟩ := hSw; go_simp)
    simp only [Act.put, List.setIfInBounds_toArray, List.set_cons_zero, List.set_cons_succ]
    refine wpAnyH_ready (rs := [1, 4, 5]) (by kernel_rfl) (by simp) ?_
    refine AllReadyH.cons (i := 1) rfl (fun K hK => ?_) (AllReadyH.cons (i := 4) rfl (fun K hK => ?_) (AllReadyH.cons (i := 5) rfl (fun K hK => ?_) AllReadyH.nil))
    · (rw [if_pos (by rfl)]; go_simp; refine (of1_lit l0 l1 l2 l3 l4 l5 l6 l7 l8 l9 l10 l11 l12 l13 l14 l15 _ a9 b9 a10 b10).mono ?_; rintro e w1 ⟨rfl, hb⟩)
      have hz1 := hb.size
      try simp only [World.size_alloc, World.size_drew] at hz1
      have lt1_A0 : w.heap.size < w1.heap.size := by omega
      have ne1_A0 : w1.heap.size ≠ w.heap.size := by omega
      have fb1_A0 : blkD w1 (w.heap.size) = #[.int .u32 l0, .int .u32 l1, .int .u32 l2, .int .u32 l3, .int .u32 l4, .int .u32 l5, .int .u32 l6, .int .u32 l7, .int .u32 l8, .int .u32 l9, .int .u32 l10, .int .u32 l11, .int .u32 l12, .int .u32 l13, .int .u32 l14, .int .u32 l15] := by rw [bblk hb _ (by first | omega | (simp <;> omega))]; go_simp
      have lt1_A1 : w.heap.size + 1 < w1.heap.size := by omega
      have ne1_A1 : w1.heap.size ≠ w.heap.size + 1 := by omega
      have fb1_A1 : blkD w1 (w.heap.size + 1) = #[.int .u32 k0, .int .u32 k1, .int .u32 k2, .int .u32 k3, .int .u32 k4, .int .u32 k5, .int .u32 k6, .int .u32 k7, .int .u32 k8, .int .u32 k9, .int .u32 k10, .int .u32 k11, .int .u32 k12, .int .u32 k13, .int .u32 k14, .int .u32 k15] := by rw [bblk hb _ (by first | omega | (simp <;> omega))]; go_simp
      refine hK.out _ _ ?_ (fun hHeld => ?_)
      · (refine ⟨?_, ?_⟩ <;> go_simp)
      clear hK hHeld
      (try simp only [Act.put, List.setIfInBounds_toArray, List.set_cons_zero, List.set_cons_succ])
      refine wpAnyH_ready (rs := [3, 4, 5]) (by kernel_rfl) (by simp) ?_
      refine AllReadyH.cons (i := 3) rfl (fun K hK => ?_) (AllReadyH.cons (i := 4) rfl (fun K hK => ?_) (AllReadyH.cons (i := 5) rfl (fun K hK => ?_) AllReadyH.nil))
      · (rw [if_pos (by rfl)]; go_simp; refine (of1_lit k0 k1 k2 k3 k4 k5 k6 k7 k8 k9 k10 k11 k12 k13 k14 k15 _ c9 d9 c10 d10).mono ?_; rintro e w2 ⟨rfl, hb2⟩)
        have hz3 := hb2.size
        try simp only [World.size_alloc, World.size_drew] at hz3
        have lt3_A0 : w.heap.size < w2.heap.size := by omega
        have ne3_A0 : w2.heap.size ≠ w.heap.size := by omega
        have fb3_A0 : blkD w2 (w.heap.size) = #[.int .u32 l0, .int .u32 l1, .int .u32 l2, .int .u32 l3, .int .u32 l4, .int .u32 l5, .int .u32 l6, .int .u32 l7, .int .u32 l8, .int .u32 l9, .int .u32 l10, .int .u32 l11, .int .u32 l12, .int .u32 l13, .int .u32 l14, .int .u32 l15] := by rw [bblk hb2 _ (by first | omega | (simp <;> omega))]; go_simp
        have lt3_A1 : w.heap.size + 1 < w2.heap.size := by omega
        have ne3_A1 : w2.heap.size ≠ w.heap.size + 1 := by omega
        have fb3_A1 : blkD w2 (w.heap.size + 1) = #[.int .u32 k0, .int .u32 k1, .int .u32 k2, .int .u32 k3, .int .u32 k4, .int .u32 k5, .int .u32 k6, .int .u32 k7, .int .u32 k8, .int .u32 k9, .int .u32 k10, .int .u32 k11, .int .u32 k12, .int .u32 k13, .int .u32 k14, .int .u32 k15] := by rw [bblk hb2 _ (by first | omega | (simp <;> omega))]; go_simp
        refine hK.out _ _ ?_ (fun hHeld => ?_)
        · (refine ⟨?_, ?_⟩ <;> go_simp)
        clear hK hHeld
        (try simp only [Act.put, List.setIfInBounds_toArray, List.set_cons_zero, List.set_cons_succ])
        refine wpAnyH_ready (rs := [4, 5]) (by kernel_rfl) (by simp) ?_
        refine AllReadyH.cons (i := 4) rfl (fun K hK => ?_) (AllReadyH.cons (i := 5) rfl (fun K hK => ?_) AllReadyH.nil)
        · (rw [if_pos (by rfl)]; go_simp)
          refine hK.out _ _ ?_ (fun hHeld => ?_)
          · (refine ⟨?_, ?_⟩ <;> go_simp)
          clear hK hHeld
          (try simp only [Act.put, List.setIfInBounds_toArray, List.set_cons_zero, List.set_cons_succ])
          refine wpAnyH_ready (rs := [5]) (by kernel_rfl) (by simp) ?_
          refine AllReadyH.cons (i := 5) rfl (fun K hK => ?_) AllReadyH.nil
          · (rw [if_pos (by rfl)]; go_simp)
            refine hK.out _ _ ?_ (fun hHeld => ?_)
            · (refine ⟨?_, ?_⟩ <;> go_simp)
            clear hK hHeld
            (try simp only [Act.put, List.setIfInBounds_toArray, List.set_cons_zero, List.set_cons_succ])
            refine wpAnyH_ready (rs := [6]) (by kernel_rfl) (by simp) ?_
            refine AllReadyH.cons (i := 6) rfl (fun K hK => ?_) AllReadyH.nil
            · have nn_A0_A1 : w.heap.size ≠ w.heap.size + 1 := by omega
              have nn_A0_g5 : w.heap.size ≠ w2.heap.size := by omega
              have nn_A0_g6 : w.heap.size ≠ w2.heap.size + 1 := by omega
              have nn_A1_A0 : w.heap.size + 1 ≠ w.heap.size := by omega
              have nn_A1_g5 : w.heap.size + 1 ≠ w2.heap.size := by omega
              have nn_A1_g6 : w.heap.size + 1 ≠ w2.heap.size + 1 := by omega
              have nn_g5_A0 : w2.heap.size ≠ w.heap.size := by omega
              have nn_g5_A1 : w2.heap.size ≠ w.heap.size + 1 := by omega
              have nn_g5_g6 : w2.heap.size ≠ w2.heap.size + 1 := by omega
              have nn_g6_A0 : w2.heap.size + 1 ≠ w.heap.size := by omega
              have nn_g6_A1 : w2.heap.size + 1 ≠ w.heap.size + 1 := by omega
              have nn_g6_g5 : w2.heap.size + 1 ≠ w2.heap.size := by omega
              (rw [if_pos (by rfl)]; go_simp)
              refine hK.out _ _ ?_ (fun hHeld => ?_)
              · (refine ⟨?_, ?_⟩ <;> go_simp)
              clear hK hHeld
              (try simp only [Act.put, List.setIfInBounds_toArray, List.set_cons_zero, List.set_cons_succ])
              refine wpAnyH_ready (rs := [7]) (by kernel_rfl) (by simp) ?_
              refine AllReadyH.cons (i := 7) rfl (fun K hK => ?_) AllReadyH.nil
              · (rw [if_pos (by rfl)]; go_simp)
                refine hK.out _ _ ?_ (fun hHeld => ?_)
                · (refine ⟨?_, ?_⟩ <;> go_simp)
                clear hK hHeld
                (try simp only [Act.put, List.setIfInBounds_toArray, List.set_cons_zero, List.set_cons_succ])
                refine wpAnyH_done (by kernel_rfl) ?_ _
                go_wp2_with fail
                go_meet
                refine ⟨w2.heap.size, w2.heap.size + 1, rfl, rfl, ?_, ?_, ?_, ?_, ?_⟩
                · go_simp
                · go_simp
                · (simp <;> omega)
                · (simp <;> omega)
                · repeat (first | (with_reducible exact Below.refl _ _) | (with_reducible refine below_setRow ?_ ?_ _) | (with_reducible refine Below.drew ?_) | (with_reducible refine Below.alloc ?_ ?_ _) | (with_reducible refine Below.trans ?_ (hb2.mono ?_)) | (with_reducible refine Below.trans ?_ (hb.mono ?_)))
                  all_goals (first | omega | (simp <;> omega))
        · (rw [if_pos (by rfl)]; go_simp)
          refine hK.out _ _ ?_ (fun hHeld => ?_)
          · (refine ⟨?_, ?_⟩ <;> go_simp)
          clear hK hHeld
          (try simp only [Act.put, List.setIfInBounds_toArray, List.set_cons_zero, List.set_cons_succ])
          refine wpAnyH_ready (rs := [4]) (by kernel_rfl) (by simp) ?_
          refine AllReadyH.cons (i := 4) rfl (fun K hK => ?_) AllReadyH.nil
          · (rw [if_pos (by rfl)]; go_simp)
            refine hK.out _ _ ?_ (fun hHeld => ?_)
            · (refine ⟨?_, ?_⟩ <;> go_simp)
            clear hK hHeld
            (try simp only [Act.put, List.setIfInBounds_toArray, List.set_cons_zero, List.set_cons_succ])
            refine wpAnyH_ready (rs := [6]) (by kernel_rfl) (by simp) ?_
            refine AllReadyH.cons (i := 6) rfl (fun K hK => ?_) AllReadyH.nil
            · have nn_A0_A1 : w.heap.size ≠ w.heap.size + 1 := by omega
              have nn_A0_g6 : w.heap.size ≠ w2.heap.size := by omega
              have nn_A0_g5 : w.heap.size ≠ w2.heap.size + 1 := by omega
              have nn_A1_A0 : w.heap.size + 1 ≠ w.heap.size := by omega
              have nn_A1_g6 : w.heap.size + 1 ≠ w2.heap.size := by omega
              have nn_A1_g5 : w.heap.size + 1 ≠ w2.heap.size + 1 := by omega
              have nn_g6_A0 : w2.heap.size ≠ w.heap.size := by omega
              have nn_g6_A1 : w2.heap.size ≠ w.heap.size + 1 := by omega
              have nn_g6_g5 : w2.heap.size ≠ w2.heap.size + 1 := by omega
              have nn_g5_A0 : w2.heap.size + 1 ≠ w.heap.size := by omega
              have nn_g5_A1 : w2.heap.size + 1 ≠ w.heap.size + 1 := by omega
              have nn_g5_g6 : w2.heap.size + 1 ≠ w2.heap.size := by omega
              (rw [if_pos (by rfl)]; go_simp)
              refine hK.out _ _ ?_ (fun hHeld => ?_)
              · (refine ⟨?_, ?_⟩ <;> go_simp)
              clear hK hHeld
              (try simp only [Act.put, List.setIfInBounds_toArray, List.set_cons_zero, List.set_cons_succ])
              refine wpAnyH_ready (rs := [7]) (by kernel_rfl) (by simp) ?_
              refine AllReadyH.cons (i := 7) rfl (fun K hK => ?_) AllReadyH.nil
              · (rw [if_pos (by rfl)]; go_simp)
                refine hK.out _ _ ?_ (fun hHeld => ?_)
                · (refine ⟨?_, ?_⟩ <;> go_simp)
                clear hK hHeld
                (try simp only [Act.put, List.setIfInBounds_toArray, List.set_cons_zero, List.set_cons_succ])
                refine wpAnyH_done (by kernel_rfl) ?_ _
                go_wp2_with fail
                go_meet
                refine ⟨w2.heap.size + 1, w2.heap.size, rfl, rfl, ?_, ?_, ?_, ?_, ?_⟩
                · go_simp
                · go_simp
                · (simp <;> omega)
                · (simp <;> omega)
                · repeat (first | (with_reducible exact Below.refl _ _) | (with_reducible refine below_setRow ?_ ?_ _) | (with_reducible refine Below.drew ?_) | (with_reducible refine Below.alloc ?_ ?_ _) | (with_reducible refine Below.trans ?_ (hb2.mono ?_)) | (with_reducible refine Below.trans ?_ (hb.mono ?_)))
                  all_goals (first | omega | (simp <;> omega))
      · (rw [if_pos (by rfl)]; go_simp)
        refine hK.out _ _ ?_ (fun hHeld => ?_)
        · (refine ⟨?_, ?_⟩ <;> go_simp)
        clear hK hHeld
        (try simp only [Act.put, List.setIfInBounds_toArray, List.set_cons_zero, List.set_cons_succ])
        refine wpAnyH_ready (rs := [3, 5]) (by kernel_rfl) (by simp) ?_
        refine AllReadyH.cons (i := 3) rfl (fun K hK => ?_) (AllReadyH.cons (i := 5) rfl (fun K hK => ?_) AllReadyH.nil)
        · (rw [if_pos (by rfl)]; go_simp; refine (of1_lit k0 k1 k2 k3 k4 k5 k6 k7 k8 k9 k10 k11 k12 k13 k14 k15 _ c9 d9 c10 d10).mono ?_; rintro e w2 ⟨rfl, hb2⟩)
          have hz3 := hb2.size
          try simp only [World.size_alloc, World.size_drew] at hz3
          have lt3_A0 : w.heap.size < w2.heap.size := by omega
          have ne3_A0 : w2.heap.size ≠ w.heap.size := by omega
          have fb3_A0 : blkD w2 (w.heap.size) = #[.int .u32 l0, .int .u32 l1, .int .u32 l2, .int .u32 l3, .int .u32 l4, .int .u32 l5, .int .u32 l6, .int .u32 l7, .int .u32 l8, .int .u32 l9, .int .u32 l10, .int .u32 l11, .int .u32 l12, .int .u32 l13, .int .u32 l14, .int .u32 l15] := by rw [bblk hb2 _ (by first | omega | (simp <;> omega))]; go_simp
          have lt3_A1 : w.heap.size + 1 < w2.heap.size := by omega
          have ne3_A1 : w2.heap.size ≠ w.heap.size + 1 := by omega
          have fb3_A1 : blkD w2 (w.heap.size + 1) = #[.int .u32 k0, .int .u32 k1, .int .u32 k2, .int .u32 k3, .int .u32 k4, .int .u32 k5, .int .u32 k6, .int .u32 k7, .int .u32 k8, .int .u32 k9, .int .u32 k10, .int .u32 k11, .int .u32 k12, .int .u32 k13, .int .u32 k14, .int .u32 k15] := by rw [bblk hb2 _ (by first | omega | (simp <;> omega))]; go_simp
          have lt3_g5 : w1.heap.size < w2.heap.size := by omega
          have ne3_g5 : w2.heap.size ≠ w1.heap.size := by omega
          have fb3_g5 : blkD w2 (w1.heap.size) = #[.int .i64 0, .int .i64 0, .int .i64 0, .int .i64 0, .int .i64 0, .int .i64 0, .int .i64 0, .int .i64 0, .int .i64 0, .int .i64 0, .int .i64 0, .int .i64 0, .int .i64 0, .int .i64 0, .int .i64 0, .int .i64 0, .int .i64 0, .string ⟨#[]⟩, .string ⟨#[]⟩] := by rw [bblk hb2 _ (by first | omega | (simp <;> omega))]; go_simp
          refine hK.out _ _ ?_ (fun hHeld => ?_)
          · (refine ⟨?_, ?_⟩ <;> go_simp)
          clear hK hHeld
          (try simp only [Act.put, List.setIfInBounds_toArray, List.set_cons_zero, List.set_cons_succ])
          refine wpAnyH_ready (rs := [5]) (by kernel_rfl) (by simp) ?_
          refine AllReadyH.cons (i := 5) rfl (fun K hK => ?_) AllReadyH.nil
          · (rw [if_pos (by rfl)]; go_simp)
            refine hK.out _ _ ?_ (fun hHeld => ?_)
            · (refine ⟨?_, ?_⟩ <;> go_simp)
            clear hK hHeld
            (try simp only [Act.put, List.setIfInBounds_toArray, List.set_cons_zero, List.set_cons_succ])
            refine wpAnyH_ready (rs := [6]) (by kernel_rfl) (by simp) ?_
            refine AllReadyH.cons (i := 6) rfl (fun K hK => ?_) AllReadyH.nil
            · have nn_A0_A1 : w.heap.size ≠ w.heap.size + 1 := by omega
              have nn_A0_g5 : w.heap.size ≠ w1.heap.size := by omega
              have nn_A0_g6 : w.heap.size ≠ w2.heap.size := by omega
              have nn_A1_A0 : w.heap.size + 1 ≠ w.heap.size := by omega
              have nn_A1_g5 : w.heap.size + 1 ≠ w1.heap.size := by omega
              have nn_A1_g6 : w.heap.size + 1 ≠ w2.heap.size := by omega
              have nn_g5_A0 : w1.heap.size ≠ w.heap.size := by omega
              have nn_g5_A1 : w1.heap.size ≠ w.heap.size + 1 := by omega
              have nn_g5_g6 : w1.heap.size ≠ w2.heap.size := by omega
              have nn_g6_A0 : w2.heap.size ≠ w.heap.size := by omega
              have nn_g6_A1 : w2.heap.size ≠ w.heap.size + 1 := by omega
              have nn_g6_g5 : w2.heap.size ≠ w1.heap.size := by omega
              (rw [if_pos (by rfl)]; go_simp)
              refine hK.out _ _ ?_ (fun hHeld => ?_)
              · (refine ⟨?_, ?_⟩ <;> go_simp)
              clear hK hHeld
              (try simp only [Act.put, List.setIfInBounds_toArray, List.set_cons_zero, List.set_cons_succ])
              refine wpAnyH_ready (rs := [7]) (by kernel_rfl) (by simp) ?_
              refine AllReadyH.cons (i := 7) rfl (fun K hK => ?_) AllReadyH.nil
              · (rw [if_pos (by rfl)]; go_simp)
                refine hK.out _ _ ?_ (fun hHeld => ?_)
                · (refine ⟨?_, ?_⟩ <;> go_simp)
                clear hK hHeld
                (try simp only [Act.put, List.setIfInBounds_toArray, List.set_cons_zero, List.set_cons_succ])
                refine wpAnyH_done (by kernel_rfl) ?_ _
                go_wp2_with fail
                go_meet
                refine ⟨w1.heap.size, w2.heap.size, rfl, rfl, ?_, ?_, ?_, ?_, ?_⟩
                · go_simp
                · go_simp
                · (simp <;> omega)
                · (simp <;> omega)
                · repeat (first | (with_reducible exact Below.refl _ _) | (with_reducible refine below_setRow ?_ ?_ _) | (with_reducible refine Below.drew ?_) | (with_reducible refine Below.alloc ?_ ?_ _) | (with_reducible refine Below.trans ?_ (hb2.mono ?_)) | (with_reducible refine Below.trans ?_ (hb.mono ?_)))
                  all_goals (first | omega | (simp <;> omega))
        · (rw [if_pos (by rfl)]; go_simp)
          refine hK.out _ _ ?_ (fun hHeld => ?_)
          · (refine ⟨?_, ?_⟩ <;> go_simp)
          clear hK hHeld
          (try simp only [Act.put, List.setIfInBounds_toArray, List.set_cons_zero, List.set_cons_succ])
          refine wpAnyH_ready (rs := [3]) (by kernel_rfl) (by simp) ?_
          refine AllReadyH.cons (i := 3) rfl (fun K hK => ?_) AllReadyH.nil
          · (rw [if_pos (by rfl)]; go_simp; refine (of1_lit k0 k1 k2 k3 k4 k5 k6 k7 k8 k9 k10 k11 k12 k13 k14 k15 _ c9 d9 c10 d10).mono ?_; rintro e w2 ⟨rfl, hb2⟩)
            have hz3 := hb2.size
            try simp only [World.size_alloc, World.size_drew] at hz3
            have lt3_A0 : w.heap.size < w2.heap.size := by omega
            have ne3_A0 : w2.heap.size ≠ w.heap.size := by omega
            have fb3_A0 : blkD w2 (w.heap.size) = #[.int .u32 l0, .int .u32 l1, .int .u32 l2, .int .u32 l3, .int .u32 l4, .int .u32 l5, .int .u32 l6, .int .u32 l7, .int .u32 l8, .int .u32 l9, .int .u32 l10, .int .u32 l11, .int .u32 l12, .int .u32 l13, .int .u32 l14, .int .u32 l15] := by rw [bblk hb2 _ (by first | omega | (simp <;> omega))]; go_simp
            have lt3_A1 : w.heap.size + 1 < w2.heap.size := by omega
            have ne3_A1 : w2.heap.size ≠ w.heap.size + 1 := by omega
            have fb3_A1 : blkD w2 (w.heap.size + 1) = #[.int .u32 k0, .int .u32 k1, .int .u32 k2, .int .u32 k3, .int .u32 k4, .int .u32 k5, .int .u32 k6, .int .u32 k7, .int .u32 k8, .int .u32 k9, .int .u32 k10, .int .u32 k11, .int .u32 k12, .int .u32 k13, .int .u32 k14, .int .u32 k15] := by rw [bblk hb2 _ (by first | omega | (simp <;> omega))]; go_simp
            have lt3_g5 : w1.heap.size < w2.heap.size := by omega
            have ne3_g5 : w2.heap.size ≠ w1.heap.size := by omega
            have fb3_g5 : blkD w2 (w1.heap.size) = #[.int .i64 0, .int .i64 0, .int .i64 0, .int .i64 0, .int .i64 0, .int .i64 0, .int .i64 0, .int .i64 0, .int .i64 0, .int .i64 0, .int .i64 0, .int .i64 0, .int .i64 0, .int .i64 0, .int .i64 0, .int .i64 0, .int .i64 0, .string ⟨#[]⟩, .string ⟨#[]⟩] := by rw [bblk hb2 _ (by first | omega | (simp <;> omega))]; go_simp
            have lt3_g6 : w1.heap.size + 1 < w2.heap.size := by omega
            have ne3_g6 : w2.heap.size ≠ w1.heap.size + 1 := by omega
            have fb3_g6 : blkD w2 (w1.heap.size + 1) = #[.int .i64 0, .int .i64 0, .int .i64 0, .int .i64 0, .int .i64 0, .int .i64 0, .int .i64 0, .int .i64 0, .int .i64 0, .int .i64 0, .int .i64 0, .int .i64 0, .int .i64 0, .int .i64 0, .int .i64 0, .int .i64 0, .int .i64 0, .string ⟨#[]⟩, .string ⟨#[]⟩] := by rw [bblk hb2 _ (by first | omega | (simp <;> omega))]; go_simp
            refine hK.out _ _ ?_ (fun hHeld => ?_)
            · (refine ⟨?_, ?_⟩ <;> go_simp)
            clear hK hHeld
            (try simp only [Act.put, List.setIfInBounds_toArray, List.set_cons_zero, List.set_cons_succ])
            refine wpAnyH_ready (rs := [6]) (by kernel_rfl) (by simp) ?_
            refine AllReadyH.cons (i := 6) rfl (fun K hK => ?_) AllReadyH.nil
            · have nn_A0_A1 : w.heap.size ≠ w.heap.size + 1 := by omega
              have nn_A0_g5 : w.heap.size ≠ w1.heap.size := by omega
              have nn_A0_g6 : w.heap.size ≠ w1.heap.size + 1 := by omega
              have nn_A1_A0 : w.heap.size + 1 ≠ w.heap.size := by omega
              have nn_A1_g5 : w.heap.size + 1 ≠ w1.heap.size := by omega
              have nn_A1_g6 : w.heap.size + 1 ≠ w1.heap.size + 1 := by omega
              have nn_g5_A0 : w1.heap.size ≠ w.heap.size := by omega
              have nn_g5_A1 : w1.heap.size ≠ w.heap.size + 1 := by omega
              have nn_g5_g6 : w1.heap.size ≠ w1.heap.size + 1 := by omega
              have nn_g6_A0 : w1.heap.size + 1 ≠ w.heap.size := by omega
              have nn_g6_A1 : w1.heap.size + 1 ≠ w.heap.size + 1 := by omega
              have nn_g6_g5 : w1.heap.size + 1 ≠ w1.heap.size := by omega
              (rw [if_pos (by rfl)]; go_simp)
              refine hK.out _ _ ?_ (fun hHeld => ?_)
              · (refine ⟨?_, ?_⟩ <;> go_simp)
              clear hK hHeld
              (try simp only [Act.put, List.setIfInBounds_toArray, List.set_cons_zero, List.set_cons_succ])
              refine wpAnyH_ready (rs := [7]) (by kernel_rfl) (by simp) ?_
              refine AllReadyH.cons (i := 7) rfl (fun K hK => ?_) AllReadyH.nil
              · (rw [if_pos (by rfl)]; go_simp)
                refine hK.out _ _ ?_ (fun hHeld => ?_)
                · (refine ⟨?_, ?_⟩ <;> go_simp)
                clear hK hHeld
                (try simp only [Act.put, List.setIfInBounds_toArray, List.set_cons_zero, List.set_cons_succ])
                refine wpAnyH_done (by kernel_rfl) ?_ _
                go_wp2_with fail
                go_meet
                refine ⟨w1.heap.size, w1.heap.size + 1, rfl, rfl, ?_, ?_, ?_, ?_, ?_⟩
                · go_simp
                · go_simp
                · (simp <;> omega)
                · (simp <;> omega)
                · repeat (first | (with_reducible exact Below.refl _ _) | (with_reducible refine below_setRow ?_ ?_ _) | (with_reducible refine Below.drew ?_) | (with_reducible refine Below.alloc ?_ ?_ _) | (with_reducible refine Below.trans ?_ (hb2.mono ?_)) | (with_reducible refine Below.trans ?_ (hb.mono ?_)))
                  all_goals (first | omega | (simp <;> omega))
      · (rw [if_pos (by rfl)]; go_simp)
        refine hK.out _ _ ?_ (fun hHeld => ?_)
        · (refine ⟨?_, ?_⟩ <;> go_simp)
        clear hK hHeld
        (try simp only [Act.put, List.setIfInBounds_toArray, List.set_cons_zero, List.set_cons_succ])
        refine wpAnyH_ready (rs := [3, 4]) (by kernel_rfl) (by simp) ?_
        refine AllReadyH.cons (i := 3) rfl (fun K hK => ?_) (AllReadyH.cons (i := 4) rfl (fun K hK => ?_) AllReadyH.nil)
        · (rw [if_pos (by rfl)]; go_simp; refine (of1_lit k0 k1 k2 k3 k4 k5 k6 k7 k8 k9 k10 k11 k12 k13 k14 k15 _ c9 d9 c10 d10).mono ?_; rintro e w2 ⟨rfl, hb2⟩)
          have hz3 := hb2.size
          try simp only [World.size_alloc, World.size_drew] at hz3
          have lt3_A0 : w.heap.size < w2.heap.size := by omega
          have ne3_A0 : w2.heap.size ≠ w.heap.size := by omega
          have fb3_A0 : blkD w2 (w.heap.size) = #[.int .u32 l0, .int .u32 l1, .int .u32 l2, .int .u32 l3, .int .u32 l4, .int .u32 l5, .int .u32 l6, .int .u32 l7, .int .u32 l8, .int .u32 l9, .int .u32 l10, .int .u32 l11, .int .u32 l12, .int .u32 l13, .int .u32 l14, .int .u32 l15] := by rw [bblk hb2 _ (by first | omega | (simp <;> omega))]; go_simp
          have lt3_A1 : w.heap.size + 1 < w2.heap.size := by omega
          have ne3_A1 : w2.heap.size ≠ w.heap.size + 1 := by omega
          have fb3_A1 : blkD w2 (w.heap.size + 1) = #[.int .u32 k0, .int .u32 k1, .int .u32 k2, .int .u32 k3, .int .u32 k4, .int .u32 k5, .int .u32 k6, .int .u32 k7, .int .u32 k8, .int .u32 k9, .int .u32 k10, .int .u32 k11, .int .u32 k12, .int .u32 k13, .int .u32 k14, .int .u32 k15] := by rw [bblk hb2 _ (by first | omega | (simp <;> omega))]; go_simp
          have lt3_g6 : w1.heap.size < w2.heap.size := by omega
          have ne3_g6 : w2.heap.size ≠ w1.heap.size := by omega
          have fb3_g6 : blkD w2 (w1.heap.size) = #[.int .i64 0, .int .i64 0, .int .i64 0, .int .i64 0, .int .i64 0, .int .i64 0, .int .i64 0, .int .i64 0, .int .i64 0, .int .i64 0, .int .i64 0, .int .i64 0, .int .i64 0, .int .i64 0, .int .i64 0, .int .i64 0, .int .i64 0, .string ⟨#[]⟩, .string ⟨#[]⟩] := by rw [bblk hb2 _ (by first | omega | (simp <;> omega))]; go_simp
          refine hK.out _ _ ?_ (fun hHeld => ?_)
          · (refine ⟨?_, ?_⟩ <;> go_simp)
          clear hK hHeld
          (try simp only [Act.put, List.setIfInBounds_toArray, List.set_cons_zero, List.set_cons_succ])
          refine wpAnyH_ready (rs := [4]) (by kernel_rfl) (by simp) ?_
          refine AllReadyH.cons (i := 4) rfl (fun K hK => ?_) AllReadyH.nil
          · (rw [if_pos (by rfl)]; go_simp)
            refine hK.out _ _ ?_ (fun hHeld => ?_)
            · (refine ⟨?_, ?_⟩ <;> go_simp)
            clear hK hHeld
            (try simp only [Act.put, List.setIfInBounds_toArray, List.set_cons_zero, List.set_cons_succ])
            refine wpAnyH_ready (rs := [6]) (by kernel_rfl) (by simp) ?_
            refine AllReadyH.cons (i := 6) rfl (fun K hK => ?_) AllReadyH.nil
            · have nn_A0_A1 : w.heap.size ≠ w.heap.size + 1 := by omega
              have nn_A0_g6 : w.heap.size ≠ w1.heap.size := by omega
              have nn_A0_g5 : w.heap.size ≠ w2.heap.size := by omega
              have nn_A1_A0 : w.heap.size + 1 ≠ w.heap.size := by omega
              have nn_A1_g6 : w.heap.size + 1 ≠ w1.heap.size := by omega
              have nn_A1_g5 : w.heap.size + 1 ≠ w2.heap.size := by omega
              have nn_g6_A0 : w1.heap.size ≠ w.heap.size := by omega
              have nn_g6_A1 : w1.heap.size ≠ w.heap.size + 1 := by omega
              have nn_g6_g5 : w1.heap.size ≠ w2.heap.size := by omega
              have nn_g5_A0 : w2.heap.size ≠ w.heap.size := by omega
              have nn_g5_A1 : w2.heap.size ≠ w.heap.size + 1 := by omega
              have nn_g5_g6 : w2.heap.size ≠ w1.heap.size := by omega
              (rw [if_pos (by rfl)]; go_simp)
              refine hK.out _ _ ?_ (fun hHeld => ?_)
              · (refine ⟨?_, ?_⟩ <;> go_simp)
              clear hK hHeld
              (try simp only [Act.put, List.setIfInBounds_toArray, List.set_cons_zero, List.set_cons_succ])
              refine wpAnyH_ready (rs := [7]) (by kernel_rfl) (by simp) ?_
              refine AllReadyH.cons (i := 7) rfl (fun K hK => ?_) AllReadyH.nil
              · (rw [if_pos (by rfl)]; go_simp)
                refine hK.out _ _ ?_ (fun hHeld => ?_)
                · (refine ⟨?_, ?_⟩ <;> go_simp)
                clear hK hHeld
                (try simp only [Act.put, List.setIfInBounds_toArray, List.set_cons_zero, List.set_cons_succ])
                refine wpAnyH_done (by kernel_rfl) ?_ _
                go_wp2_with fail
                go_meet
                refine ⟨w2.heap.size, w1.heap.size, rfl, rfl, ?_, ?_, ?_, ?_, ?_⟩
                · go_simp
                · go_simp
                · (simp <;> omega)
                · (simp <;> omega)
                · repeat (first | (with_reducible exact Below.refl _ _) | (with_reducible refine below_setRow ?_ ?_ _) | (with_reducible refine Below.drew ?_) | (with_reducible refine Below.alloc ?_ ?_ _) | (with_reducible refine Below.trans ?_ (hb2.mono ?_)) | (with_reducible refine Below.trans ?_ (hb.mono ?_)))
                  all_goals (first | omega | (simp <;> omega))
        · (rw [if_pos (by rfl)]; go_simp)
          refine hK.out _ _ ?_ (fun hHeld => ?_)
          · (refine ⟨?_, ?_⟩ <;> go_simp)
          clear hK hHeld
          (try simp only [Act.put, List.setIfInBounds_toArray, List.set_cons_zero, List.set_cons_succ])
          refine wpAnyH_ready (rs := [3]) (by kernel_rfl) (by simp) ?_
          refine AllReadyH.cons (i := 3) rfl (fun K hK => ?_) AllReadyH.nil
          · (rw [if_pos (by rfl)]; go_simp; refine (of1_lit k0 k1 k2 k3 k4 k5 k6 k7 k8 k9 k10 k11 k12 k13 k14 k15 _ c9 d9 c10 d10).mono ?_; rintro e w2 ⟨rfl, hb2⟩)
            have hz3 := hb2.size
            try simp only [World.size_alloc, World.size_drew] at hz3
            have lt3_A0 : w.heap.size < w2.heap.size := by omega
            have ne3_A0 : w2.heap.size ≠ w.heap.size := by omega
            have fb3_A0 : blkD w2 (w.heap.size) = #[.int .u32 l0, .int .u32 l1, .int .u32 l2, .int .u32 l3, .int .u32 l4, .int .u32 l5, .int .u32 l6, .int .u32 l7, .int .u32 l8, .int .u32 l9, .int .u32 l10, .int .u32 l11, .int .u32 l12, .int .u32 l13, .int .u32 l14, .int .u32 l15] := by rw [bblk hb2 _ (by first | omega | (simp <;> omega))]; go_simp
            have lt3_A1 : w.heap.size + 1 < w2.heap.size := by omega
            have ne3_A1 : w2.heap.size ≠ w.heap.size + 1 := by omega
            have fb3_A1 : blkD w2 (w.heap.size + 1) = #[.int .u32 k0, .int .u32 k1, .int .u32 k2, .int .u32 k3, .int .u32 k4, .int .u32 k5, .int .u32 k6, .int .u32 k7, .int .u32 k8, .int .u32 k9, .int .u32 k10, .int .u32 k11, .int .u32 k12, .int .u32 k13, .int .u32 k14, .int .u32 k15] := by rw [bblk hb2 _ (by first | omega | (simp <;> omega))]; go_simp
            have lt3_g6 : w1.heap.size < w2.heap.size := by omega
            have ne3_g6 : w2.heap.size ≠ w1.heap.size := by omega
            have fb3_g6 : blkD w2 (w1.heap.size) = #[.int .i64 0, .int .i64 0, .int .i64 0, .int .i64 0, .int .i64 0, .int .i64 0, .int .i64 0, .int .i64 0, .int .i64 0, .int .i64 0, .int .i64 0, .int .i64 0, .int .i64 0, .int .i64 0, .int .i64 0, .int .i64 0, .int .i64 0, .string ⟨#[]⟩, .string ⟨#[]⟩] := by rw [bblk hb2 _ (by first | omega | (simp <;> omega))]; go_simp
            have lt3_g5 : w1.heap.size + 1 < w2.heap.size := by omega
            have ne3_g5 : w2.heap.size ≠ w1.heap.size + 1 := by omega
            have fb3_g5 : blkD w2 (w1.heap.size + 1) = #[.int .i64 0, .int .i64 0, .int .i64 0, .int .i64 0, .int .i64 0, .int .i64 0, .int .i64 0, .int .i64 0, .int .i64 0, .int .i64 0, .int .i64 0, .int .i64 0, .int .i64 0, .int .i64 0, .int .i64 0, .int .i64 0, .int .i64 0, .string ⟨#[]⟩, .string ⟨#[]⟩] := by rw [bblk hb2 _ (by first | omega | (simp <;> omega))]; go_simp
            refine hK.out _ _ ?_ (fun hHeld => ?_)
            · (refine ⟨?_, ?_⟩ <;> go_simp)
            clear hK hHeld
            (try simp only [Act.put, List.setIfInBounds_toArray, List.set_cons_zero, List.set_cons_succ])
            refine wpAnyH_ready (rs := [6]) (by kernel_rfl) (by simp) ?_
            refine AllReadyH.cons (i := 6) rfl (fun K hK => ?_) AllReadyH.nil
            · have nn_A0_A1 : w.heap.size ≠ w.heap.size + 1 := by omega
              have nn_A0_g6 : w.heap.size ≠ w1.heap.size := by omega
              have nn_A0_g5 : w.heap.size ≠ w1.heap.size + 1 := by omega
              have nn_A1_A0 : w.heap.size + 1 ≠ w.heap.size := by omega
              have nn_A1_g6 : w.heap.size + 1 ≠ w1.heap.size := by omega
              have nn_A1_g5 : w.heap.size + 1 ≠ w1.heap.size + 1 := by omega
              have nn_g6_A0 : w1.heap.size ≠ w.heap.size := by omega
              have nn_g6_A1 : w1.heap.size ≠ w.heap.size + 1 := by omega
              have nn_g6_g5 : w1.heap.size ≠ w1.heap.size + 1 := by omega
              have nn_g5_A0 : w1.heap.size + 1 ≠ w.heap.size := by omega
              have nn_g5_A1 : w1.heap.size + 1 ≠ w.heap.size + 1 := by omega
              have nn_g5_g6 : w1.heap.size + 1 ≠ w1.heap.size := by omega
              (rw [if_pos (by rfl)]; go_simp)
              refine hK.out _ _ ?_ (fun hHeld => ?_)
              · (refine ⟨?_, ?_⟩ <;> go_simp)
              clear hK hHeld
              (try simp only [Act.put, List.setIfInBounds_toArray, List.set_cons_zero, List.set_cons_succ])
              refine wpAnyH_ready (rs := [7]) (by kernel_rfl) (by simp) ?_
              refine AllReadyH.cons (i := 7) rfl (fun K hK => ?_) AllReadyH.nil
              · (rw [if_pos (by rfl)]; go_simp)
                refine hK.out _ _ ?_ (fun hHeld => ?_)
                · (refine ⟨?_, ?_⟩ <;> go_simp)
                clear hK hHeld
                (try simp only [Act.put, List.setIfInBounds_toArray, List.set_cons_zero, List.set_cons_succ])
                refine wpAnyH_done (by kernel_rfl) ?_ _
                go_wp2_with fail
                go_meet
                refine ⟨w1.heap.size + 1, w1.heap.size, rfl, rfl, ?_, ?_, ?_, ?_, ?_⟩
                · go_simp
                · go_simp
                · (simp <;> omega)
                · (simp <;> omega)
                · repeat (first | (with_reducible exact Below.refl _ _) | (with_reducible refine below_setRow ?_ ?_ _) | (with_reducible refine Below.drew ?_) | (with_reducible refine Below.alloc ?_ ?_ _) | (with_reducible refine Below.trans ?_ (hb2.mono ?_)) | (with_reducible refine Below.trans ?_ (hb.mono ?_)))
                  all_goals (first | omega | (simp <;> omega))
    · (rw [if_pos (by rfl)]; go_simp)
      refine hK.out _ _ ?_ (fun hHeld => ?_)
      · (refine ⟨?_, ?_⟩ <;> go_simp)
      clear hK hHeld
      (try simp only [Act.put, List.setIfInBounds_toArray, List.set_cons_zero, List.set_cons_succ])
      refine wpAnyH_ready (rs := [1, 5]) (by kernel_rfl) (by simp) ?_
      refine AllReadyH.cons (i := 1) rfl (fun K hK => ?_) (AllReadyH.cons (i := 5) rfl (fun K hK => ?_) AllReadyH.nil)
      · (rw [if_pos (by rfl)]; go_simp; refine (of1_lit l0 l1 l2 l3 l4 l5 l6 l7 l8 l9 l10 l11 l12 l13 l14 l15 _ a9 b9 a10 b10).mono ?_; rintro e w1 ⟨rfl, hb⟩)
        have hz1 := hb.size
        try simp only [World.size_alloc, World.size_drew] at hz1
        have lt1_A0 : w.heap.size < w1.heap.size := by omega
        have ne1_A0 : w1.heap.size ≠ w.heap.size := by omega
        have fb1_A0 : blkD w1 (w.heap.size) = #[.int .u32 l0, .int .u32 l1, .int .u32 l2, .int .u32 l3, .int .u32 l4, .int .u32 l5, .int .u32 l6, .int .u32 l7, .int .u32 l8, .int .u32 l9, .int .u32 l10, .int .u32 l11, .int .u32 l12, .int .u32 l13, .int .u32 l14, .int .u32 l15] := by rw [bblk hb _ (by first | omega | (simp <;> omega))]; go_simp
        have lt1_A1 : w.heap.size + 1 < w1.heap.size := by omega
        have ne1_A1 : w1.heap.size ≠ w.heap.size + 1 := by omega
        have fb1_A1 : blkD w1 (w.heap.size + 1) = #[.int .u32 k0, .int .u32 k1, .int .u32 k2, .int .u32 k3, .int .u32 k4, .int .u32 k5, .int .u32 k6, .int .u32 k7, .int .u32 k8, .int .u32 k9, .int .u32 k10, .int .u32 k11, .int .u32 k12, .int .u32 k13, .int .u32 k14, .int .u32 k15] := by rw [bblk hb _ (by first | omega | (simp <;> omega))]; go_simp
        have lt1_g5 : w.heap.size + 1 + 1 < w1.heap.size := by omega
        have ne1_g5 : w1.heap.size ≠ w.heap.size + 1 + 1 := by omega
        have fb1_g5 : blkD w1 (w.heap.size + 1 + 1) = #[.int .i64 0, .int .i64 0, .int .i64 0, .int .i64 0, .int .i64 0, .int .i64 0, .int .i64 0, .int .i64 0, .int .i64 0, .int .i64 0, .int .i64 0, .int .i64 0, .int .i64 0, .int .i64 0, .int .i64 0, .int .i64 0, .int .i64 0, .string ⟨#[]⟩, .string ⟨#[]⟩] := by rw [bblk hb _ (by first | omega | (simp <;> omega))]; go_simp
        refine hK.out _ _ ?_ (fun hHeld => ?_)
        · (refine ⟨?_, ?_⟩ <;> go_simp)
        clear hK hHeld
        (try simp only [Act.put, List.setIfInBounds_toArray, List.set_cons_zero, List.set_cons_succ])
        refine wpAnyH_ready (rs := [3, 5]) (by kernel_rfl) (by simp) ?_
        refine AllReadyH.cons (i := 3) rfl (fun K hK => ?_) (AllReadyH.cons (i := 5) rfl (fun K hK => ?_) AllReadyH.nil)
        · (rw [if_pos (by rfl)]; go_simp; refine (of1_lit k0 k1 k2 k3 k4 k5 k6 k7 k8 k9 k10 k11 k12 k13 k14 k15 _ c9 d9 c10 d10).mono ?_; rintro e w2 ⟨rfl, hb2⟩)
          have hz3 := hb2.size
          try simp only [World.size_alloc, World.size_drew] at hz3
          have lt3_A0 : w.heap.size < w2.heap.size := by omega
          have ne3_A0 : w2.heap.size ≠ w.heap.size := by omega
          have fb3_A0 : blkD w2 (w.heap.size) = #[.int .u32 l0, .int .u32 l1, .int .u32 l2, .int .u32 l3, .int .u32 l4, .int .u32 l5, .int .u32 l6, .int .u32 l7, .int .u32 l8, .int .u32 l9, .int .u32 l10, .int .u32 l11, .int .u32 l12, .int .u32 l13, .int .u32 l14, .int .u32 l15] := by rw [bblk hb2 _ (by first | omega | (simp <;> omega))]; go_simp
          have lt3_A1 : w.heap.size + 1 < w2.heap.size := by omega
          have ne3_A1 : w2.heap.size ≠ w.heap.size + 1 := by omega
          have fb3_A1 : blkD w2 (w.heap.size + 1) = #[.int .u32 k0, .int .u32 k1, .int .u32 k2, .int .u32 k3, .int .u32 k4, .int .u32 k5, .int .u32 k6, .int .u32 k7, .int .u32 k8, .int .u32 k9, .int .u32 k10, .int .u32 k11, .int .u32 k12, .int .u32 k13, .int .u32 k14, .int .u32 k15] := by rw [bblk hb2 _ (by first | omega | (simp <;> omega))]; go_simp
          have lt3_g5 : w.heap.size + 1 + 1 < w2.heap.size := by omega
          have ne3_g5 : w2.heap.size ≠ w.heap.size + 1 + 1 := by omega
          have fb3_g5 : blkD w2 (w.heap.size + 1 + 1) = #[.int .i64 0, .int .i64 0, .int .i64 0, .int .i64 0, .int .i64 0, .int .i64 0, .int .i64 0, .int .i64 0, .int .i64 0, .int .i64 0, .int .i64 0, .int .i64 0, .int .i64 0, .int .i64 0, .int .i64 0, .int .i64 0, .int .i64 0, .string ⟨#[]⟩, .string ⟨#[]⟩] := by rw [bblk hb2 _ (by first | omega | (simp <;> omega))]; go_simp
          refine hK.out _ _ ?_ (fun hHeld => ?_)
          · (refine ⟨?_, ?_⟩ <;> go_simp)
          clear hK hHeld
          (try simp only [Act.put, List.setIfInBounds_toArray, List.set_cons_zero, List.set_cons_succ])
          refine wpAnyH_ready (rs := [5]) (by kernel_rfl) (by simp) ?_
          refine AllReadyH.cons (i := 5) rfl (fun K hK => ?_) AllReadyH.nil
          · (rw [if_pos (by rfl)]; go_simp)
            refine hK.out _ _ ?_ (fun hHeld => ?_)
            · (refine ⟨?_, ?_⟩ <;> go_simp)
            clear hK hHeld
            (try simp only [Act.put, List.setIfInBounds_toArray, List.set_cons_zero, List.set_cons_succ])
            refine wpAnyH_ready (rs := [6]) (by kernel_rfl) (by simp) ?_
            refine AllReadyH.cons (i := 6) rfl (fun K hK => ?_) AllReadyH.nil
            · have nn_A0_A1 : w.heap.size ≠ w.heap.size + 1 := by omega
              have nn_A0_g5 : w.heap.size ≠ w.heap.size + 1 + 1 := by omega
              have nn_A0_g6 : w.heap.size ≠ w2.heap.size := by omega
              have nn_A1_A0 : w.heap.size + 1 ≠ w.heap.size := by omega
              have nn_A1_g5 : w.heap.size + 1 ≠ w.heap.size + 1 + 1 := by omega
              have nn_A1_g6 : w.heap.size + 1 ≠ w2.heap.size := by omega
              have nn_g5_A0 : w.heap.size + 1 + 1 ≠ w.heap.size := by omega
              have nn_g5_A1 : w.heap.size + 1 + 1 ≠ w.heap.size + 1 := by omega
              have nn_g5_g6 : w.heap.size + 1 + 1 ≠ w2.heap.size := by omega
              have nn_g6_A0 : w2.heap.size ≠ w.heap.size := by omega
              have nn_g6_A1 : w2.heap.size ≠ w.heap.size + 1 := by omega
              have nn_g6_g5 : w2.heap.size ≠ w.heap.size + 1 + 1 := by omega
              (rw [if_pos (by rfl)]; go_simp)
              refine hK.out _ _ ?_ (fun hHeld => ?_)
              · (refine ⟨?_, ?_⟩ <;> go_simp)
              clear hK hHeld
              (try simp only [Act.put, List.setIfInBounds_toArray, List.set_cons_zero, List.set_cons_succ])
              refine wpAnyH_ready (rs := [7]) (by kernel_rfl) (by simp) ?_
              refine AllReadyH.cons (i := 7) rfl (fun K hK => ?_) AllReadyH.nil
              · (rw [if_pos (by rfl)]; go_simp)
                refine hK.out _ _ ?_ (fun hHeld => ?_)
                · (refine ⟨?_, ?_⟩ <;> go_simp)
                clear hK hHeld
                (try simp only [Act.put, List.setIfInBounds_toArray, List.set_cons_zero, List.set_cons_succ])
                refine wpAnyH_done (by kernel_rfl) ?_ _
                go_wp2_with fail
                go_meet
                refine ⟨w.heap.size + 1 + 1, w2.heap.size, rfl, rfl, ?_, ?_, ?_, ?_, ?_⟩
                · go_simp
                · go_simp
                · (simp <;> omega)
                · (simp <;> omega)
                · repeat (first | (with_reducible exact Below.refl _ _) | (with_reducible refine below_setRow ?_ ?_ _) | (with_reducible refine Below.drew ?_) | (with_reducible refine Below.alloc ?_ ?_ _) | (with_reducible refine Below.trans ?_ (hb2.mono ?_)) | (with_reducible refine Below.trans ?_ (hb.mono ?_)))
                  all_goals (first | omega | (simp <;> omega))
        · (rw [if_pos (by rfl)]; go_simp)
          refine hK.out _ _ ?_ (fun hHeld => ?_)
          · (refine ⟨?_, ?_⟩ <;> go_simp)
          clear hK hHeld
          (try simp only [Act.put, List.setIfInBounds_toArray, List.set_cons_zero, List.set_cons_succ])
          refine wpAnyH_ready (rs := [3]) (by kernel_rfl) (by simp) ?_
          refine AllReadyH.cons (i := 3) rfl (fun K hK => ?_) AllReadyH.nil
          · (rw [if_pos (by rfl)]; go_simp; refine (of1_lit k0 k1 k2 k3 k4 k5 k6 k7 k8 k9 k10 k11 k12 k13 k14 k15 _ c9 d9 c10 d10).mono ?_; rintro e w2 ⟨rfl, hb2⟩)
            have hz3 := hb2.size
            try simp only [World.size_alloc, World.size_drew] at hz3
            have lt3_A0 : w.heap.size < w2.heap.size := by omega
            have ne3_A0 : w2.heap.size ≠ w.heap.size := by omega
            have fb3_A0 : blkD w2 (w.heap.size) = #[.int .u32 l0, .int .u32 l1, .int .u32 l2, .int .u32 l3, .int .u32 l4, .int .u32 l5, .int .u32 l6, .int .u32 l7, .int .u32 l8, .int .u32 l9, .int .u32 l10, .int .u32 l11, .int .u32 l12, .int .u32 l13, .int .u32 l14, .int .u32 l15] := by rw [bblk hb2 _ (by first | omega | (simp <;> omega))]; go_simp
            have lt3_A1 : w.heap.size + 1 < w2.heap.size := by omega
            have ne3_A1 : w2.heap.size ≠ w.heap.size + 1 := by omega
            have fb3_A1 : blkD w2 (w.heap.size + 1) = #[.int .u32 k0, .int .u32 k1, .int .u32 k2, .int .u32 k3, .int .u32 k4, .int .u32 k5, .int .u32 k6, .int .u32 k7, .int .u32 k8, .int .u32 k9, .int .u32 k10, .int .u32 k11, .int .u32 k12, .int .u32 k13, .int .u32 k14, .int .u32 k15] := by rw [bblk hb2 _ (by first | omega | (simp <;> omega))]; go_simp
            have lt3_g5 : w.heap.size + 1 + 1 < w2.heap.size := by omega
            have ne3_g5 : w2.heap.size ≠ w.heap.size + 1 + 1 := by omega
            have fb3_g5 : blkD w2 (w.heap.size + 1 + 1) = #[.int .i64 0, .int .i64 0, .int .i64 0, .int .i64 0, .int .i64 0, .int .i64 0, .int .i64 0, .int .i64 0, .int .i64 0, .int .i64 0, .int .i64 0, .int .i64 0, .int .i64 0, .int .i64 0, .int .i64 0, .int .i64 0, .int .i64 0, .string ⟨#[]⟩, .string ⟨#[]⟩] := by rw [bblk hb2 _ (by first | omega | (simp <;> omega))]; go_simp
            have lt3_g6 : w1.heap.size < w2.heap.size := by omega
            have ne3_g6 : w2.heap.size ≠ w1.heap.size := by omega
            have fb3_g6 : blkD w2 (w1.heap.size) = #[.int .i64 0, .int .i64 0, .int .i64 0, .int .i64 0, .int .i64 0, .int .i64 0, .int .i64 0, .int .i64 0, .int .i64 0, .int .i64 0, .int .i64 0, .int .i64 0, .int .i64 0, .int .i64 0, .int .i64 0, .int .i64 0, .int .i64 0, .string ⟨#[]⟩, .string ⟨#[]⟩] := by rw [bblk hb2 _ (by first | omega | (simp <;> omega))]; go_simp
            refine hK.out _ _ ?_ (fun hHeld => ?_)
            · (refine ⟨?_, ?_⟩ <;> go_simp)
            clear hK hHeld
            (try simp only [Act.put, List.setIfInBounds_toArray, List.set_cons_zero, List.set_cons_succ])
            refine wpAnyH_ready (rs := [6]) (by kernel_rfl) (by simp) ?_
            refine AllReadyH.cons (i := 6) rfl (fun K hK => ?_) AllReadyH.nil
            · have nn_A0_A1 : w.heap.size ≠ w.heap.size + 1 := by omega
              have nn_A0_g5 : w.heap.size ≠ w.heap.size + 1 + 1 := by omega
              have nn_A0_g6 : w.heap.size ≠ w1.heap.size := by omega
              have nn_A1_A0 : w.heap.size + 1 ≠ w.heap.size := by omega
              have nn_A1_g5 : w.heap.size + 1 ≠ w.heap.size + 1 + 1 := by omega
              have nn_A1_g6 : w.heap.size + 1 ≠ w1.heap.size := by omega
              have nn_g5_A0 : w.heap.size + 1 + 1 ≠ w.heap.size := by omega
              have nn_g5_A1 : w.heap.size + 1 + 1 ≠ w.heap.size + 1 := by omega
              have nn_g5_g6 : w.heap.size + 1 + 1 ≠ w1.heap.size := by omega
              have nn_g6_A0 : w1.heap.size ≠ w.heap.size := by omega
              have nn_g6_A1 : w1.heap.size ≠ w.heap.size + 1 := by omega
              have nn_g6_g5 : w1.heap.size ≠ w.heap.size + 1 + 1 := by omega
              (rw [if_pos (by rfl)]; go_simp)
              refine hK.out _ _ ?_ (fun hHeld => ?_)
              · (refine ⟨?_, ?_⟩ <;> go_simp)
              clear hK hHeld
              (try simp only [Act.put, List.setIfInBounds_toArray, List.set_cons_zero, List.set_cons_succ])
              refine wpAnyH_ready (rs := [7]) (by kernel_rfl) (by simp) ?_
              refine AllReadyH.cons (i := 7) rfl (fun K hK => ?_) AllReadyH.nil
              · (rw [if_pos (by rfl)]; go_simp)
                refine hK.out _ _ ?_ (fun hHeld => ?_)
                · (refine ⟨?_, ?_⟩ <;> go_simp)
                clear hK hHeld
                (try simp only [Act.put, List.setIfInBounds_toArray, List.set_cons_zero, List.set_cons_succ])
                refine wpAnyH_done (by kernel_rfl) ?_ _
                go_wp2_with fail
                go_meet
                refine ⟨w.heap.size + 1 + 1, w1.heap.size, rfl, rfl, ?_, ?_, ?_, ?_, ?_⟩
                · go_simp
                · go_simp
                · (simp <;> omega)
                · (simp <;> omega)
                · repeat (first | (with_reducible exact Below.refl _ _) | (with_reducible refine below_setRow ?_ ?_ _) | (with_reducible refine Below.drew ?_) | (with_reducible refine Below.alloc ?_ ?_ _) | (with_reducible refine Below.trans ?_ (hb2.mono ?_)) | (with_reducible refine Below.trans ?_ (hb.mono ?_)))
                  all_goals (first | omega | (simp <;> omega))
      · (rw [if_pos (by rfl)]; go_simp)
        refine hK.out _ _ ?_ (fun hHeld => ?_)
        · (refine ⟨?_, ?_⟩ <;> go_simp)
        clear hK hHeld
        (try simp only [Act.put, List.setIfInBounds_toArray, List.set_cons_zero, List.set_cons_succ])
        refine wpAnyH_ready (rs := [1]) (by kernel_rfl) (by simp) ?_
        refine AllReadyH.cons (i := 1) rfl (fun K hK => ?_) AllReadyH.nil
        · (rw [if_pos (by rfl)]; go_simp; refine (of1_lit l0 l1 l2 l3 l4 l5 l6 l7 l8 l9 l10 l11 l12 l13 l14 l15 _ a9 b9 a10 b10).mono ?_; rintro e w1 ⟨rfl, hb⟩)
          have hz1 := hb.size
          try simp only [World.size_alloc, World.size_drew] at hz1
          have lt1_A0 : w.heap.size < w1.heap.size := by omega
          have ne1_A0 : w1.heap.size ≠ w.heap.size := by omega
          have fb1_A0 : blkD w1 (w.heap.size) = #[.int .u32 l0, .int .u32 l1, .int .u32 l2, .int .u32 l3, .int .u32 l4, .int .u32 l5, .int .u32 l6, .int .u32 l7, .int .u32 l8, .int .u32 l9, .int .u32 l10, .int .u32 l11, .int .u32 l12, .int .u32 l13, .int .u32 l14, .int .u32 l15] := by rw [bblk hb _ (by first | omega | (simp <;> omega))]; go_simp
          have lt1_A1 : w.heap.size + 1 < w1.heap.size := by omega
          have ne1_A1 : w1.heap.size ≠ w.heap.size + 1 := by omega
          have fb1_A1 : blkD w1 (w.heap.size + 1) = #[.int .u32 k0, .int .u32 k1, .int .u32 k2, .int .u32 k3, .int .u32 k4, .int .u32 k5, .int .u32 k6, .int .u32 k7, .int .u32 k8, .int .u32 k9, .int .u32 k10, .int .u32 k11, .int .u32 k12, .int .u32 k13, .int .u32 k14, .int .u32 k15] := by rw [bblk hb _ (by first | omega | (simp <;> omega))]; go_simp
          have lt1_g5 : w.heap.size + 1 + 1 < w1.heap.size := by omega
          have ne1_g5 : w1.heap.size ≠ w.heap.size + 1 + 1 := by omega
          have fb1_g5 : blkD w1 (w.heap.size + 1 + 1) = #[.int .i64 0, .int .i64 0, .int .i64 0, .int .i64 0, .int .i64 0, .int .i64 0, .int .i64 0, .int .i64 0, .int .i64 0, .int .i64 0, .int .i64 0, .int .i64 0, .int .i64 0, .int .i64 0, .int .i64 0, .int .i64 0, .int .i64 0, .string ⟨#[]⟩, .string ⟨#[]⟩] := by rw [bblk hb _ (by first | omega | (simp <;> omega))]; go_simp
          have lt1_g6 : w.heap.size + 1 + 1 + 1 < w1.heap.size := by omega
          have ne1_g6 : w1.heap.size ≠ w.heap.size + 1 + 1 + 1 := by omega
          have fb1_g6 : blkD w1 (w.heap.size + 1 + 1 + 1) = #[.int .i64 0, .int .i64 0, .int .i64 0, .int .i64 0, .int .i64 0, .int .i64 0, .int .i64 0, .int .i64 0, .int .i64 0, .int .i64 0, .int .i64 0, .int .i64 0, .int .i64 0, .int .i64 0, .int .i64 0, .int .i64 0, .int .i64 0, .string ⟨#[]⟩, .string ⟨#[]⟩] := by rw [bblk hb _ (by first | omega | (simp <;> omega))]; go_simp
          refine hK.out _ _ ?_ (fun hHeld => ?_)
          · (refine ⟨?_, ?_⟩ <;> go_simp)
          clear hK hHeld
          (try simp only [Act.put, List.setIfInBounds_toArray, List.set_cons_zero, List.set_cons_succ])
          refine wpAnyH_ready (rs := [3]) (by kernel_rfl) (by simp) ?_
          refine AllReadyH.cons (i := 3) rfl (fun K hK => ?_) AllReadyH.nil
          · (rw [if_pos (by rfl)]; go_simp; refine (of1_lit k0 k1 k2 k3 k4 k5 k6 k7 k8 k9 k10 k11 k12 k13 k14 k15 _ c9 d9 c10 d10).mono ?_; rintro e w2 ⟨rfl, hb2⟩)
            have hz3 := hb2.size
            try simp only [World.size_alloc, World.size_drew] at hz3
            have lt3_A0 : w.heap.size < w2.heap.size := by omega
            have ne3_A0 : w2.heap.size ≠ w.heap.size := by omega
            have fb3_A0 : blkD w2 (w.heap.size) = #[.int .u32 l0, .int .u32 l1, .int .u32 l2, .int .u32 l3, .int .u32 l4, .int .u32 l5, .int .u32 l6, .int .u32 l7, .int .u32 l8, .int .u32 l9, .int .u32 l10, .int .u32 l11, .int .u32 l12, .int .u32 l13, .int .u32 l14, .int .u32 l15] := by rw [bblk hb2 _ (by first | omega | (simp <;> omega))]; go_simp
            have lt3_A1 : w.heap.size + 1 < w2.heap.size := by omega
            have ne3_A1 : w2.heap.size ≠ w.heap.size + 1 := by omega
            have fb3_A1 : blkD w2 (w.heap.size + 1) = #[.int .u32 k0, .int .u32 k1, .int .u32 k2, .int .u32 k3, .int .u32 k4, .int .u32 k5, .int .u32 k6, .int .u32 k7, .int .u32 k8, .int .u32 k9, .int .u32 k10, .int .u32 k11, .int .u32 k12, .int .u32 k13, .int .u32 k14, .int .u32 k15] := by rw [bblk hb2 _ (by first | omega | (simp <;> omega))]; go_simp
            have lt3_g5 : w.heap.size + 1 + 1 < w2.heap.size := by omega
            have ne3_g5 : w2.heap.size ≠ w.heap.size + 1 + 1 := by omega
            have fb3_g5 : blkD w2 (w.heap.size + 1 + 1) = #[.int .i64 0, .int .i64 0, .int .i64 0, .int .i64 0, .int .i64 0, .int .i64 0, .int .i64 0, .int .i64 0, .int .i64 0, .int .i64 0, .int .i64 0, .int .i64 0, .int .i64 0, .int .i64 0, .int .i64 0, .int .i64 0, .int .i64 0, .string ⟨#[]⟩, .string ⟨#[]⟩] := by rw [bblk hb2 _ (by first | omega | (simp <;> omega))]; go_simp
            have lt3_g6 : w.heap.size + 1 + 1 + 1 < w2.heap.size := by omega
            have ne3_g6 : w2.heap.size ≠ w.heap.size + 1 + 1 + 1 := by omega
            have fb3_g6 : blkD w2 (w.heap.size + 1 + 1 + 1) = #[.int .i64 0, .int .i64 0, .int .i64 0, .int .i64 0, .int .i64 0, .int .i64 0, .int .i64 0, .int .i64 0, .int .i64 0, .int .i64 0, .int .i64 0, .int .i64 0, .int .i64 0, .int .i64 0, .int .i64 0, .int .i64 0, .int .i64 0, .string ⟨#[]⟩, .string ⟨#[]⟩] := by rw [bblk hb2 _ (by first | omega | (simp <;> omega))]; go_simp
            refine hK.out _ _ ?_ (fun hHeld => ?_)
            · (refine ⟨?_, ?_⟩ <;> go_simp)
            clear hK hHeld
            (try simp only [Act.put, List.setIfInBounds_toArray, List.set_cons_zero, List.set_cons_succ])
            refine wpAnyH_ready (rs := [6]) (by kernel_rfl) (by simp) ?_
            refine AllReadyH.cons (i := 6) rfl (fun K hK => ?_) AllReadyH.nil
            · have nn_A0_A1 : w.heap.size ≠ w.heap.size + 1 := by omega
              have nn_A0_g5 : w.heap.size ≠ w.heap.size + 1 + 1 := by omega
              have nn_A0_g6 : w.heap.size ≠ w.heap.size + 1 + 1 + 1 := by omega
              have nn_A1_A0 : w.heap.size + 1 ≠ w.heap.size := by omega
              have nn_A1_g5 : w.heap.size + 1 ≠ w.heap.size + 1 + 1 := by omega
              have nn_A1_g6 : w.heap.size + 1 ≠ w.heap.size + 1 + 1 + 1 := by omega
              have nn_g5_A0 : w.heap.size + 1 + 1 ≠ w.heap.size := by omega
              have nn_g5_A1 : w.heap.size + 1 + 1 ≠ w.heap.size + 1 := by omega
              have nn_g5_g6 : w.heap.size + 1 + 1 ≠ w.heap.size + 1 + 1 + 1 := by omega
              have nn_g6_A0 : w.heap.size + 1 + 1 + 1 ≠ w.heap.size := by omega
              have nn_g6_A1 : w.heap.size + 1 + 1 + 1 ≠ w.heap.size + 1 := by omega
              have nn_g6_g5 : w.heap.size + 1 + 1 + 1 ≠ w.heap.size + 1 + 1 := by omega
              (rw [if_pos (by rfl)]; go_simp)
              refine hK.out _ _ ?_ (fun hHeld => ?_)
              · (refine ⟨?_, ?_⟩ <;> go_simp)
              clear hK hHeld
              (try simp only [Act.put, List.setIfInBounds_toArray, List.set_cons_zero, List.set_cons_succ])
              refine wpAnyH_ready (rs := [7]) (by kernel_rfl) (by simp) ?_
              refine AllReadyH.cons (i := 7) rfl (fun K hK => ?_) AllReadyH.nil
              · (rw [if_pos (by rfl)]; go_simp)
                refine hK.out _ _ ?_ (fun hHeld => ?_)
                · (refine ⟨?_, ?_⟩ <;> go_simp)
                clear hK hHeld
                (try simp only [Act.put, List.setIfInBounds_toArray, List.set_cons_zero, List.set_cons_succ])
                refine wpAnyH_done (by kernel_rfl) ?_ _
                go_wp2_with fail
                go_meet
                refine ⟨w.heap.size + 1 + 1, w.heap.size + 1 + 1 + 1, rfl, rfl, ?_, ?_, ?_, ?_, ?_⟩
                · go_simp
                · go_simp
                · (simp <;> omega)
                · (simp <;> omega)
                · repeat (first | (with_reducible exact Below.refl _ _) | (with_reducible refine below_setRow ?_ ?_ _) | (with_reducible refine Below.drew ?_) | (with_reducible refine Below.alloc ?_ ?_ _) | (with_reducible refine Below.trans ?_ (hb2.mono ?_)) | (with_reducible refine Below.trans ?_ (hb.mono ?_)))
                  all_goals (first | omega | (simp <;> omega))
    · (rw [if_pos (by rfl)]; go_simp)
      refine hK.out _ _ ?_ (fun hHeld => ?_)
      · (refine ⟨?_, ?_⟩ <;> go_simp)
      clear hK hHeld
      (try simp only [Act.put, List.setIfInBounds_toArray, List.set_cons_zero, List.set_cons_succ])
      refine wpAnyH_ready (rs := [1, 4]) (by kernel_rfl) (by simp) ?_
      refine AllReadyH.cons (i := 1) rfl (fun K hK => ?_) (AllReadyH.cons (i := 4) rfl (fun K hK => ?_) AllReadyH.nil)
      · (rw [if_pos (by rfl)]; go_simp; refine (of1_lit l0 l1 l2 l3 l4 l5 l6 l7 l8 l9 l10 l11 l12 l13 l14 l15 _ a9 b9 a10 b10).mono ?_; rintro e w1 ⟨rfl, hb⟩)
        have hz1 := hb.size
        try simp only [World.size_alloc, World.size_drew] at hz1
        have lt1_A0 : w.heap.size < w1.heap.size := by omega
        have ne1_A0 : w1.heap.size ≠ w.heap.size := by omega
        have fb1_A0 : blkD w1 (w.heap.size) = #[.int .u32 l0, .int .u32 l1, .int .u32 l2, .int .u32 l3, .int .u32 l4, .int .u32 l5, .int .u32 l6, .int .u32 l7, .int .u32 l8, .int .u32 l9, .int .u32 l10, .int .u32 l11, .int .u32 l12, .int .u32 l13, .int .u32 l14, .int .u32 l15] := by rw [bblk hb _ (by first | omega | (simp <;> omega))]; go_simp
        have lt1_A1 : w.heap.size + 1 < w1.heap.size := by omega
        have ne1_A1 : w1.heap.size ≠ w.heap.size + 1 := by omega
        have fb1_A1 : blkD w1 (w.heap.size + 1) = #[.int .u32 k0, .int .u32 k1, .int .u32 k2, .int .u32 k3, .int .u32 k4, .int .u32 k5, .int .u32 k6, .int .u32 k7, .int .u32 k8, .int .u32 k9, .int .u32 k10, .int .u32 k11, .int .u32 k12, .int .u32 k13, .int .u32 k14, .int .u32 k15] := by rw [bblk hb _ (by first | omega | (simp <;> omega))]; go_simp
        have lt1_g6 : w.heap.size + 1 + 1 < w1.heap.size := by omega
        have ne1_g6 : w1.heap.size ≠ w.heap.size + 1 + 1 := by omega
        have fb1_g6 : blkD w1 (w.heap.size + 1 + 1) = #[.int .i64 0, .int .i64 0, .int .i64 0, .int .i64 0, .int .i64 0, .int .i64 0, .int .i64 0, .int .i64 0, .int .i64 0, .int .i64 0, .int .i64 0, .int .i64 0, .int .i64 0, .int .i64 0, .int .i64 0, .int .i64 0, .int .i64 0, .string ⟨#[]⟩, .string ⟨#[]⟩] := by rw [bblk hb _ (by first | omega | (simp <;> omega))]; go_simp
        refine hK.out _ _ ?_ (fun hHeld => ?_)
        · (refine ⟨?_, ?_⟩ <;> go_simp)
        clear hK hHeld
        (try simp only [Act.put, List.setIfInBounds_toArray, List.set_cons_zero, List.set_cons_succ])
        refine wpAnyH_ready (rs := [3, 4]) (by kernel_rfl) (by simp) ?_
        refine AllReadyH.cons (i := 3) rfl (fun K hK => ?_) (AllReadyH.cons (i := 4) rfl (fun K hK => ?_) AllReadyH.nil)
        · (rw [if_pos (by rfl)]; go_simp; refine (of1_lit k0 k1 k2 k3 k4 k5 k6 k7 k8 k9 k10 k11 k12 k13 k14 k15 _ c9 d9 c10 d10).mono ?_; rintro e w2 ⟨rfl, hb2⟩)
          have hz3 := hb2.size
          try simp only [World.size_alloc, World.size_drew] at hz3
          have lt3_A0 : w.heap.size < w2.heap.size := by omega
          have ne3_A0 : w2.heap.size ≠ w.heap.size := by omega
          have fb3_A0 : blkD w2 (w.heap.size) = #[.int .u32 l0, .int .u32 l1, .int .u32 l2, .int .u32 l3, .int .u32 l4, .int .u32 l5, .int .u32 l6, .int .u32 l7, .int .u32 l8, .int .u32 l9, .int .u32 l10, .int .u32 l11, .int .u32 l12, .int .u32 l13, .int .u32 l14, .int .u32 l15] := by rw [bblk hb2 _ (by first | omega | (simp <;> omega))]; go_simp
          have lt3_A1 : w.heap.size + 1 < w2.heap.size := by omega
          have ne3_A1 : w2.heap.size ≠ w.heap.size + 1 := by omega
          have fb3_A1 : blkD w2 (w.heap.size + 1) = #[.int .u32 k0, .int .u32 k1, .int .u32 k2, .int .u32 k3, .int .u32 k4, .int .u32 k5, .int .u32 k6, .int .u32 k7, .int .u32 k8, .int .u32 k9, .int .u32 k10, .int .u32 k11, .int .u32 k12, .int .u32 k13, .int .u32 k14, .int .u32 k15] := by rw [bblk hb2 _ (by first | omega | (simp <;> omega))]; go_simp
          have lt3_g6 : w.heap.size + 1 + 1 < w2.heap.size := by omega
          have ne3_g6 : w2.heap.size ≠ w.heap.size + 1 + 1 := by omega
          have fb3_g6 : blkD w2 (w.heap.size + 1 + 1) = #[.int .i64 0, .int .i64 0, .int .i64 0, .int .i64 0, .int .i64 0, .int .i64 0, .int .i64 0, .int .i64 0, .int .i64 0, .int .i64 0, .int .i64 0, .int .i64 0, .int .i64 0, .int .i64 0, .int .i64 0, .int .i64 0, .int .i64 0, .string ⟨#[]⟩, .string ⟨#[]⟩] := by rw [bblk hb2 _ (by first | omega | (simp <;> omega))]; go_simp
          refine hK.out _ _ ?_ (fun hHeld => ?_)
          · (refine ⟨?_, ?_⟩ <;> go_simp)
          clear hK hHeld
          (try simp only [Act.put, List.setIfInBounds_toArray, List.set_cons_zero, List.set_cons_succ])
          refine wpAnyH_ready (rs := [4]) (by kernel_rfl) (by simp) ?_
          refine AllReadyH.cons (i := 4) rfl (fun K hK => ?_) AllReadyH.nil
          · (rw [if_pos (by rfl)]; go_simp)
            refine hK.out _ _ ?_ (fun hHeld => ?_)
            · (refine ⟨?_, ?_⟩ <;> go_simp)
            clear hK hHeld
            (try simp only [Act.put, List.setIfInBounds_toArray, List.set_cons_zero, List.set_cons_succ])
            refine wpAnyH_ready (rs := [6]) (by kernel_rfl) (by simp) ?_
            refine AllReadyH.cons (i := 6) rfl (fun K hK => ?_) AllReadyH.nil
            · have nn_A0_A1 : w.heap.size ≠ w.heap.size + 1 := by omega
              have nn_A0_g6 : w.heap.size ≠ w.heap.size + 1 + 1 := by omega
              have nn_A0_g5 : w.heap.size ≠ w2.heap.size := by omega
              have nn_A1_A0 : w.heap.size + 1 ≠ w.heap.size := by omega
              have nn_A1_g6 : w.heap.size + 1 ≠ w.heap.size + 1 + 1 := by omega
              have nn_A1_g5 : w.heap.size + 1 ≠ w2.heap.size := by omega
              have nn_g6_A0 : w.heap.size + 1 + 1 ≠ w.heap.size := by omega
              have nn_g6_A1 : w.heap.size + 1 + 1 ≠ w.heap.size + 1 := by omega
              have nn_g6_g5 : w.heap.size + 1 + 1 ≠ w2.heap.size := by omega
              have nn_g5_A0 : w2.heap.size ≠ w.heap.size := by omega
              have nn_g5_A1 : w2.heap.size ≠ w.heap.size + 1 := by omega
              have nn_g5_g6 : w2.heap.size ≠ w.heap.size + 1 + 1 := by omega
              (rw [if_pos (by rfl)]; go_simp)
              refine hK.out _ _ ?_ (fun hHeld => ?_)
              · (refine ⟨?_, ?_⟩ <;> go_simp)
              clear hK hHeld
              (try simp only [Act.put, List.setIfInBounds_toArray, List.set_cons_zero, List.set_cons_succ])
              refine wpAnyH_ready (rs := [7]) (by kernel_rfl) (by simp) ?_
              refine AllReadyH.cons (i := 7) rfl (fun K hK => ?_) AllReadyH.nil
              · (rw [if_pos (by rfl)]; go_simp)
                refine hK.out _ _ ?_ (fun hHeld => ?_)
                · (refine ⟨?_, ?_⟩ <;> go_simp)
                clear hK hHeld
                (try simp only [Act.put, List.setIfInBounds_toArray, List.set_cons_zero, List.set_cons_succ])
                refine wpAnyH_done (by kernel_rfl) ?_ _
                go_wp2_with fail
                go_meet
                refine ⟨w2.heap.size, w.heap.size + 1 + 1, rfl, rfl, ?_, ?_, ?_, ?_, ?_⟩
                · go_simp
                · go_simp
                · (simp <;> omega)
                · (simp <;> omega)
                · repeat (first | (with_reducible exact Below.refl _ _) | (with_reducible refine below_setRow ?_ ?_ _) | (with_reducible refine Below.drew ?_) | (with_reducible refine Below.alloc ?_ ?_ _) | (with_reducible refine Below.trans ?_ (hb2.mono ?_)) | (with_reducible refine Below.trans ?_ (hb.mono ?_)))
                  all_goals (first | omega | (simp <;> omega))
        · (rw [if_pos (by rfl)]; go_simp)
          refine hK.out _ _ ?_ (fun hHeld => ?_)
          · (refine ⟨?_, ?_⟩ <;> go_simp)
          clear hK hHeld
          (try simp only [Act.put, List.setIfInBounds_toArray, List.set_cons_zero, List.set_cons_succ])
          refine wpAnyH_ready (rs := [3]) (by kernel_rfl) (by simp) ?_
          refine AllReadyH.cons (i := 3) rfl (fun K hK => ?_) AllReadyH.nil
          · (rw [if_pos (by rfl)]; go_simp; refine (of1_lit k0 k1 k2 k3 k4 k5 k6 k7 k8 k9 k10 k11 k12 k13 k14 k15 _ c9 d9 c10 d10).mono ?_; rintro e w2 ⟨rfl, hb2⟩)
            have hz3 := hb2.size
            try simp only [World.size_alloc, World.size_drew] at hz3
            have lt3_A0 : w.heap.size < w2.heap.size := by omega
            have ne3_A0 : w2.heap.size ≠ w.heap.size := by omega
            have fb3_A0 : blkD w2 (w.heap.size) = #[.int .u32 l0, .int .u32 l1, .int .u32 l2, .int .u32 l3, .int .u32 l4, .int .u32 l5, .int .u32 l6, .int .u32 l7, .int .u32 l8, .int .u32 l9, .int .u32 l10, .int .u32 l11, .int .u32 l12, .int .u32 l13, .int .u32 l14, .int .u32 l15] := by rw [bblk hb2 _ (by first | omega | (simp <;> omega))]; go_simp
            have lt3_A1 : w.heap.size + 1 < w2.heap.size := by omega
            have ne3_A1 : w2.heap.size ≠ w.heap.size + 1 := by omega
            have fb3_A1 : blkD w2 (w.heap.size + 1) = #[.int .u32 k0, .int .u32 k1, .int .u32 k2, .int .u32 k3, .int .u32 k4, .int .u32 k5, .int .u32 k6, .int .u32 k7, .int .u32 k8, .int .u32 k9, .int .u32 k10, .int .u32 k11, .int .u32 k12, .int .u32 k13, .int .u32 k14, .int .u32 k15] := by rw [bblk hb2 _ (by first | omega | (simp <;> omega))]; go_simp
            have lt3_g6 : w.heap.size + 1 + 1 < w2.heap.size := by omega
            have ne3_g6 : w2.heap.size ≠ w.heap.size + 1 + 1 := by omega
            have fb3_g6 : blkD w2 (w.heap.size + 1 + 1) = #[.int .i64 0, .int .i64 0, .int .i64 0, .int .i64 0, .int .i64 0, .int .i64 0, .int .i64 0, .int .i64 0, .int .i64 0, .int .i64 0, .int .i64 0, .int .i64 0, .int .i64 0, .int .i64 0, .int .i64 0, .int .i64 0, .int .i64 0, .string ⟨#[]⟩, .string ⟨#[]⟩] := by rw [bblk hb2 _ (by first | omega | (simp <;> omega))]; go_simp
            have lt3_g5 : w1.heap.size < w2.heap.size := by omega
            have ne3_g5 : w2.heap.size ≠ w1.heap.size := by omega
            have fb3_g5 : blkD w2 (w1.heap.size) = #[.int .i64 0, .int .i64 0, .int .i64 0, .int .i64 0, .int .i64 0, .int .i64 0, .int .i64 0, .int .i64 0, .int .i64 0, .int .i64 0, .int .i64 0, .int .i64 0, .int .i64 0, .int .i64 0, .int .i64 0, .int .i64 0, .int .i64 0, .string ⟨#[]⟩, .string ⟨#[]⟩] := by rw [bblk hb2 _ (by first | omega | (simp <;> omega))]; go_simp
            refine hK.out _ _ ?_ (fun hHeld => ?_)
            · (refine ⟨?_, ?_⟩ <;> go_simp)
            clear hK hHeld
            (try simp only [Act.put, List.setIfInBounds_toArray, List.set_cons_zero, List.set_cons_succ])
            refine wpAnyH_ready (rs := [6]) (by kernel_rfl) (by simp) ?_
            refine AllReadyH.cons (i := 6) rfl (fun K hK => ?_) AllReadyH.nil
            · have nn_A0_A1 : w.heap.size ≠ w.heap.size + 1 := by omega
              have nn_A0_g6 : w.heap.size ≠ w.heap.size + 1 + 1 := by omega
              have nn_A0_g5 : w.heap.size ≠ w1.heap.size := by omega
              have nn_A1_A0 : w.heap.size + 1 ≠ w.heap.size := by omega
              have nn_A1_g6 : w.heap.size + 1 ≠ w.heap.size + 1 + 1 := by omega
              have nn_A1_g5 : w.heap.size + 1 ≠ w1.heap.size := by omega
              have nn_g6_A0 : w.heap.size + 1 + 1 ≠ w.heap.size := by omega
              have nn_g6_A1 : w.heap.size + 1 + 1 ≠ w.heap.size + 1 := by omega
              have nn_g6_g5 : w.heap.size + 1 + 1 ≠ w1.heap.size := by omega
              have nn_g5_A0 : w1.heap.size ≠ w.heap.size := by omega
              have nn_g5_A1 : w1.heap.size ≠ w.heap.size + 1 := by omega
              have nn_g5_g6 : w1.heap.size ≠ w.heap.size + 1 + 1 := by omega
              (rw [if_pos (by rfl)]; go_simp)
              refine hK.out _ _ ?_ (fun hHeld => ?_)
              · (refine ⟨?_, ?_⟩ <;> go_simp)
              clear hK hHeld
              (try simp only [Act.put, List.setIfInBounds_toArray, List.set_cons_zero, List.set_cons_succ])
              refine wpAnyH_ready (rs := [7]) (by kernel_rfl) (by simp) ?_
              refine AllReadyH.cons (i := 7) rfl (fun K hK => ?_) AllReadyH.nil
              · (rw [if_pos (by rfl)]; go_simp)
                refine hK.out _ _ ?_ (fun hHeld => ?_)
                · (refine ⟨?_, ?_⟩ <;> go_simp)
                clear hK hHeld
                (try simp only [Act.put, List.setIfInBounds_toArray, List.set_cons_zero, List.set_cons_succ])
                refine wpAnyH_done (by kernel_rfl) ?_ _
                go_wp2_with fail
                go_meet
                refine ⟨w1.heap.size, w.heap.size + 1 + 1, rfl, rfl, ?_, ?_, ?_, ?_, ?_⟩
                · go_simp
                · go_simp
                · (simp <;> omega)
                · (simp <;> omega)
                · repeat (first | (with_reducible exact Below.refl _ _) | (with_reducible refine below_setRow ?_ ?_ _) | (with_reducible refine Below.drew ?_) | (with_reducible refine Below.alloc ?_ ?_ _) | (with_reducible refine Below.trans ?_ (hb2.mono ?_)) | (with_reducible refine Below.trans ?_ (hb.mono ?_)))
                  all_goals (first | omega | (simp <;> omega))
      · (rw [if_pos (by rfl)]; go_simp)
        refine hK.out _ _ ?_ (fun hHeld => ?_)
        · (refine ⟨?_, ?_⟩ <;> go_simp)
        clear hK hHeld
        (try simp only [Act.put, List.setIfInBounds_toArray, List.set_cons_zero, List.set_cons_succ])
        refine wpAnyH_ready (rs := [1]) (by kernel_rfl) (by simp) ?_
        refine AllReadyH.cons (i := 1) rfl (fun K hK => ?_) AllReadyH.nil
        · (rw [if_pos (by rfl)]; go_simp; refine (of1_lit l0 l1 l2 l3 l4 l5 l6 l7 l8 l9 l10 l11 l12 l13 l14 l15 _ a9 b9 a10 b10).mono ?_; rintro e w1 ⟨rfl, hb⟩)
          have hz1 := hb.size
          try simp only [World.size_alloc, World.size_drew] at hz1
          have lt1_A0 : w.heap.size < w1.heap.size := by omega
          have ne1_A0 : w1.heap.size ≠ w.heap.size := by omega
          have fb1_A0 : blkD w1 (w.heap.size) = #[.int .u32 l0, .int .u32 l1, .int .u32 l2, .int .u32 l3, .int .u32 l4, .int .u32 l5, .int .u32 l6, .int .u32 l7, .int .u32 l8, .int .u32 l9, .int .u32 l10, .int .u32 l11, .int .u32 l12, .int .u32 l13, .int .u32 l14, .int .u32 l15] := by rw [bblk hb _ (by first | omega | (simp <;> omega))]; go_simp
          have lt1_A1 : w.heap.size + 1 < w1.heap.size := by omega
          have ne1_A1 : w1.heap.size ≠ w.heap.size + 1 := by omega
          have fb1_A1 : blkD w1 (w.heap.size + 1) = #[.int .u32 k0, .int .u32 k1, .int .u32 k2, .int .u32 k3, .int .u32 k4, .int .u32 k5, .int .u32 k6, .int .u32 k7, .int .u32 k8, .int .u32 k9, .int .u32 k10, .int .u32 k11, .int .u32 k12, .int .u32 k13, .int .u32 k14, .int .u32 k15] := by rw [bblk hb _ (by first | omega | (simp <;> omega))]; go_simp
          have lt1_g6 : w.heap.size + 1 + 1 < w1.heap.size := by omega
          have ne1_g6 : w1.heap.size ≠ w.heap.size + 1 + 1 := by omega
          have fb1_g6 : blkD w1 (w.heap.size + 1 + 1) = #[.int .i64 0, .int .i64 0, .int .i64 0, .int .i64 0, .int .i64 0, .int .i64 0, .int .i64 0, .int .i64 0, .int .i64 0, .int .i64 0, .int .i64 0, .int .i64 0, .int .i64 0, .int .i64 0, .int .i64 0, .int .i64 0, .int .i64 0, .string ⟨#[]⟩, .string ⟨#[]⟩] := by rw [bblk hb _ (by first | omega | (simp <;> omega))]; go_simp
          have lt1_g5 : w.heap.size + 1 + 1 + 1 < w1.heap.size := by omega
          have ne1_g5 : w1.heap.size ≠ w.heap.size + 1 + 1 + 1 := by omega
          have fb1_g5 : blkD w1 (w.heap.size + 1 + 1 + 1) = #[.int .i64 0, .int .i64 0, .int .i64 0, .int .i64 0, .int .i64 0, .int .i64 0, .int .i64 0, .int .i64 0, .int .i64 0, .int .i64 0, .int .i64 0, .int .i64 0, .int .i64 0, .int .i64 0, .int .i64 0, .int .i64 0, .int .i64 0, .string ⟨#[]⟩, .string ⟨#[]⟩] := by rw [bblk hb _ (by first | omega | (simp <;> omega))]; go_simp
          refine hK.out _ _ ?_ (fun hHeld => ?_)
          · (refine ⟨?_, ?_⟩ <;> go_simp)
          clear hK hHeld
          (try simp only [Act.put, List.setIfInBounds_toArray, List.set_cons_zero, List.set_cons_succ])
          refine wpAnyH_ready (rs := [3]) (by kernel_rfl) (by simp) ?_
          refine AllReadyH.cons (i := 3) rfl (fun K hK => ?_) AllReadyH.nil
          · (rw [if_pos (by rfl)]; go_simp; refine (of1_lit k0 k1 k2 k3 k4 k5 k6 k7 k8 k9 k10 k11 k12 k13 k14 k15 _ c9 d9 c10 d10).mono ?_; rintro e w2 ⟨rfl, hb2⟩)
            have hz3 := hb2.size
            try simp only [World.size_alloc, World.size_drew] at hz3
            have lt3_A0 : w.heap.size < w2.heap.size := by omega
            have ne3_A0 : w2.heap.size ≠ w.heap.size := by omega
            have fb3_A0 : blkD w2 (w.heap.size) = #[.int .u32 l0, .int .u32 l1, .int .u32 l2, .int .u32 l3, .int .u32 l4, .int .u32 l5, .int .u32 l6, .int .u32 l7, .int .u32 l8, .int .u32 l9, .int .u32 l10, .int .u32 l11, .int .u32 l12, .int .u32 l13, .int .u32 l14, .int .u32 l15] := by rw [bblk hb2 _ (by first | omega | (simp <;> omega))]; go_simp
            have lt3_A1 : w.heap.size + 1 < w2.heap.size := by omega
            have ne3_A1 : w2.heap.size ≠ w.heap.size + 1 := by omega
            have fb3_A1 : blkD w2 (w.heap.size + 1) = #[.int .u32 k0, .int .u32 k1, .int .u32 k2, .int .u32 k3, .int .u32 k4, .int .u32 k5, .int .u32 k6, .int .u32 k7, .int .u32 k8, .int .u32 k9, .int .u32 k10, .int .u32 k11, .int .u32 k12, .int .u32 k13, .int .u32 k14, .int .u32 k15] := by rw [bblk hb2 _ (by first | omega | (simp <;> omega))]; go_simp
            have lt3_g6 : w.heap.size + 1 + 1 < w2.heap.size := by omega
            have ne3_g6 : w2.heap.size ≠ w.heap.size + 1 + 1 := by omega
            have fb3_g6 : blkD w2 (w.heap.size + 1 + 1) = #[.int .i64 0, .int .i64 0, .int .i64 0, .int .i64 0, .int .i64 0, .int .i64 0, .int .i64 0, .int .i64 0, .int .i64 0, .int .i64 0, .int .i64 0, .int .i64 0, .int .i64 0, .int .i64 0, .int .i64 0, .int .i64 0, .int .i64 0, .string ⟨#[]⟩, .string ⟨#[]⟩] := by rw [bblk hb2 _ (by first | omega | (simp <;> omega))]; go_simp
            have lt3_g5 : w.heap.size + 1 + 1 + 1 < w2.heap.size := by omega
            have ne3_g5 : w2.heap.size ≠ w.heap.size + 1 + 1 + 1 := by omega
            have fb3_g5 : blkD w2 (w.heap.size + 1 + 1 + 1) = #[.int .i64 0, .int .i64 0, .int .i64 0, .int .i64 0, .int .i64 0, .int .i64 0, .int .i64 0, .int .i64 0, .int .i64 0, .int .i64 0, .int .i64 0, .int .i64 0, .int .i64 0, .int .i64 0, .int .i64 0, .int .i64 0, .int .i64 0, .string ⟨#[]⟩, .string ⟨#[]⟩] := by rw [bblk hb2 _ (by first | omega | (simp <;> omega))]; go_simp
            refine hK.out _ _ ?_ (fun hHeld => ?_)
            · (refine ⟨?_, ?_⟩ <;> go_simp)
            clear hK hHeld
            (try simp only [Act.put, List.setIfInBounds_toArray, List.set_cons_zero, List.set_cons_succ])
            refine wpAnyH_ready (rs := [6]) (by kernel_rfl) (by simp) ?_
            refine AllReadyH.cons (i := 6) rfl (fun K hK => ?_) AllReadyH.nil
            · have nn_A0_A1 : w.heap.size ≠ w.heap.size + 1 := by omega
              have nn_A0_g6 : w.heap.size ≠ w.heap.size + 1 + 1 := by omega
              have nn_A0_g5 : w.heap.size ≠ w.heap.size + 1 + 1 + 1 := by omega
              have nn_A1_A0 : w.heap.size + 1 ≠ w.heap.size := by omega
              have nn_A1_g6 : w.heap.size + 1 ≠ w.heap.size + 1 + 1 := by omega
              have nn_A1_g5 : w.heap.size + 1 ≠ w.heap.size + 1 + 1 + 1 := by omega
              have nn_g6_A0 : w.heap.size + 1 + 1 ≠ w.heap.size := by omega
              have nn_g6_A1 : w.heap.size + 1 + 1 ≠ w.heap.size + 1 := by omega
              have nn_g6_g5 : w.heap.size + 1 + 1 ≠ w.heap.size + 1 + 1 + 1 := by omega
              have nn_g5_A0 : w.heap.size + 1 + 1 + 1 ≠ w.heap.size := by omega
              have nn_g5_A1 : w.heap.size + 1 + 1 + 1 ≠ w.heap.size + 1 := by omega
              have nn_g5_g6 : w.heap.size + 1 + 1 + 1 ≠ w.heap.size + 1 + 1 := by omega
              (rw [if_pos (by rfl)]; go_simp)
              refine hK.out _ _ ?_ (fun hHeld => ?_)
              · (refine ⟨?_, ?_⟩ <;> go_simp)
              clear hK hHeld
              (try simp only [Act.put, List.setIfInBounds_toArray, List.set_cons_zero, List.set_cons_succ])
              refine wpAnyH_ready (rs := [7]) (by kernel_rfl) (by simp) ?_
              refine AllReadyH.cons (i := 7) rfl (fun K hK => ?_) AllReadyH.nil
              · (rw [if_pos (by rfl)]; go_simp)
                refine hK.out _ _ ?_ (fun hHeld => ?_)
                · (refine ⟨?_, ?_⟩ <;> go_simp)
                clear hK hHeld
                (try simp only [Act.put, List.setIfInBounds_toArray, List.set_cons_zero, List.set_cons_succ])
                refine wpAnyH_done (by kernel_rfl) ?_ _
                go_wp2_with fail
                go_meet
                refine ⟨w.heap.size + 1 + 1 + 1, w.heap.size + 1 + 1, rfl, rfl, ?_, ?_, ?_, ?_, ?_⟩
                · go_simp
                · go_simp
                · (simp <;> omega)
                · (simp <;> omega)
                · repeat (first | (with_reducible exact Below.refl _ _) | (with_reducible refine below_setRow ?_ ?_ _) | (with_reducible refine Below.drew ?_) | (with_reducible refine Below.alloc ?_ ?_ _) | (with_reducible refine Below.trans ?_ (hb2.mono ?_)) | (with_reducible refine Below.trans ?_ (hb.mono ?_)))
                  all_goals (first | omega | (simp <;> omega))

  case rest =>
    obtain ⟨g5, g6, rfl, rfl, f5, f6, lt5, lt6, hbel⟩ := hcut
    have hx : Fits 512 (m8 l0) (m16 l1) (m8 l2) (m16 l3) (m16 l4) (m8 l5) (m16 l6) (m16 l7) (m16 l8) l9 l10 0 0 0 0 := by
      have q0 := m8_le l0; have q1 := m16_le l1; have q2 := m8_le l2; have q3 := m16_le l3; have q4 := m16_le l4; have q5 := m8_le l5; have q6 := m16_le l6; have q7 := m16_le l7; have q8 := m16_le l8
      unfold Fits
      omega
    have hy : Fits 512 (m8 k0) (m16 k1) (m8 k2) (m16 k3) (m16 k4) (m8 k5) (m16 k6) (m16 k7) (m16 k8) k9 k10 0 0 0 0 := by
      have q0 := m8_le k0; have q1 := m16_le k1; have q2 := m8_le k2; have q3 := m16_le k3; have q4 := m16_le k4; have q5 := m8_le k5; have q6 := m16_le k6; have q7 := m16_le k7; have q8 := m16_le k8
      unfold Fits
      omega
    generalize m8 l0 = x2 at *
    generalize m16 l1 = x3 at *
    generalize m8 l2 = x4 at *
    generalize m16 l3 = x5 at *
    generalize m16 l4 = x6 at *
    generalize m8 l5 = x7 at *
    generalize m16 l6 = x8 at *
    generalize m16 l7 = x9 at *
    generalize m16 l8 = x10 at *
    generalize m8 k0 = y2 at *
    generalize m16 k1 = y3 at *
    generalize m8 k2 = y4 at *
    generalize m16 k3 = y5 at *
    generalize m16 k4 = y6 at *
    generalize m8 k5 = y7 at *
    generalize m16 k6 = y8 at *
    generalize m16 k7 = y9 at *
    generalize m16 k8 = y10 at *
    have HX := Lib.hid hx
    have HY := Lib.hid hy
    have HE := same_eq x2 x3 x4 x5 x6 x7 x8 x9 x10 l9 l10 y2 y3 y4 y5 y6 y7 y8 y9 y10 k9 k10
    have HS := self_eq x2 x3 x4 x5 x6 x7 x8 x9 x10 l9 l10
    clear hx hy
    go_wp2
    go_region_held3 (fun w' => blkD w' g5 = #[.int .i64 331, .int .i64 512, .int .i64 x2, .int .i64 x3, .int .i64 x4, .int .i64 x5, .int .i64 x6, .int .i64 x7, .int .i64 x8, .int .i64 x9, .int .i64 x10, .int .i64 l9, .int .i64 l10, .int .i64 0, .int .i64 0, .int .i64 0, .int .i64 0, .string ⟨#[]⟩, .string ⟨#[]⟩] ∧ blkD w' g6 = #[.int .i64 331, .int .i64 512, .int .i64 y2, .int .i64 y3, .int .i64 y4, .int .i64 y5, .int .i64 y6, .int .i64 y7, .int .i64 y8, .int .i64 y9, .int .i64 y10, .int .i64 k9, .int .i64 k10, .int .i64 0, .int .i64 0, .int .i64 0, .int .i64 0, .string ⟨#[]⟩, .string ⟨#[]⟩])
      (refine ⟨?_, ?_⟩ <;> first | (with_reducible assumption) | (simp [go_sem, f5, f6]; done))
      (first | (go_at_call 7; first | ((with_reducible refine (bpbEqual_any 331 512 x2 x3 x4 x5 x6 x7 x8 x9 x10 l9 l10 0 0 0 0 331 512 y2 y3 y4 y5 y6 y7 y8 y9 y10 k9 k10 0 0 0 0 ⟨#[]⟩ ⟨#[]⟩ ⟨#[]⟩ ⟨#[]⟩ _ HX.out HY.out).mono ?_); rintro e w3 ⟨rfl, hb3⟩; have hz3 := hb3.size; (try simp only [World.size_alloc, World.size_drew] at hz3); have u5 := bblk hb3 g5 (by first | omega | (simp <;> omega)); have u6 := bblk hb3 g6 (by first | omega | (simp <;> omega)); simp only [go_sem, f5, f6] at u5 u6; have lt5b : g5 < w3.heap.size := (by omega); have lt6b : g6 < w3.heap.size := (by omega)) | ((with_reducible refine (bpbEqual_any 331 512 x2 x3 x4 x5 x6 x7 x8 x9 x10 l9 l10 0 0 0 0 331 512 x2 x3 x4 x5 x6 x7 x8 x9 x10 l9 l10 0 0 0 0 ⟨#[]⟩ ⟨#[]⟩ ⟨#[]⟩ ⟨#[]⟩ _ HX.out HX.out).mono ?_); rintro e w4 ⟨rfl, hb4⟩; have hz4 := hb4.size; (try simp only [World.size_alloc, World.size_drew] at hz4); have v5 := bblk hb4 g5 (by first | omega | (simp <;> omega)); have v6 := bblk hb4 g6 (by first | omega | (simp <;> omega)); simp only [go_sem, f5, f6, u5, u6] at v5 v6)))
    go_wp2
    have hzl := hbel.size
    go_ret
    refine ⟨rfl, ?_⟩
    refine Below.trans ?_ (hb4.mono (by omega))
    refine Below.trans ?_ (hb3.mono (by simp only [World.size_drew]; omega))
    exact Below.drew hbel
end Go.Proofs.Ythocgjaloflclaa
