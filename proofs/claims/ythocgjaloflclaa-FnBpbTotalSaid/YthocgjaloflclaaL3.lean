/- Walk of the law FnBpbTotal. -/
import Derived.Test.YthocgjaloflclaaH
namespace Go.Proofs.Ythocgjaloflclaa
open Go.RowKit
attribute [local go_sem ↓] Go.wp_at_zero Go.wp_at_succ

theorem tot_zero (x : Int) : totS x 0 = x := rfl
theorem tot_ne {x y : Int} (h : ¬ y = 0) : totS x y = y := by simp [totS, h]
set_option maxRecDepth 100000 in
set_option maxHeartbeats 4000000 in
theorem law_total_any (l0 l1 l2 l3 l4 l5 l6 l7 l8 l9 l10 l11 l12 l13 l14 l15 : Int) (small : Bool) (w : World) (a9 : 0 ≤ l9) (b9 : l9 ≤ 4294967295) (a10 : 0 ≤ l10) (b10 : l10 ≤ 4294967295) (a14 : 0 ≤ l14) (b14 : l14 ≤ 4294967295) :
    Calls Try.prog 3 #[.agg #[.int .u32 l0, .int .u32 l1, .int .u32 l2, .int .u32 l3, .int .u32 l4, .int .u32 l5, .int .u32 l6, .int .u32 l7, .int .u32 l8, .int .u32 l9, .int .u32 l10, .int .u32 l11, .int .u32 l12, .int .u32 l13, .int .u32 l14, .int .u32 l15], .bool small] w fun e w' => e = .returned (.bool true) ∧ Below w.heap.size w w' := by
  cases small
  · by_cases h0 : l10 = 0
    · subst h0
      go_enter Try.func3, Try.ntmps3
      go_wp2_with fail
      refine (of2_lit l0 l1 l2 l3 l4 l5 l6 l7 l8 l9 0 l11 l12 l13 l14 l15 _ a9 b9 a10 b10 a14 b14).mono ?_
      rintro e w1 ⟨rfl, hb⟩
      go_wp2_with fail
      refine (bpbTotal_any 40 512 (m8 l0) (m16 l1) (m8 l2) (m16 l3) (m16 l4) (m8 l5) (m16 l6) (m16 l7) (m16 l8) l9 0 (m8 l11) (m8 l12) 41 l14 ⟨#[]⟩ ⟨#[]⟩ _ (by omega) (by omega) (m8_le l0).1 (m8_le l0).2 (m16_le l1).1 (m16_le l1).2 (m8_le l2).1 (m8_le l2).2 (m16_le l3).1 (m16_le l3).2 (m16_le l4).1 (m16_le l4).2 (m8_le l5).1 (m8_le l5).2 (m16_le l6).1 (m16_le l6).2 (m16_le l7).1 (m16_le l7).2 (m16_le l8).1 (m16_le l8).2 (by omega) (by omega) (by omega) (by omega) (m8_le l11).1 (m8_le l11).2 (m8_le l12).1 (m8_le l12).2 (by omega) (by omega) (by omega) (by omega)).mono ?_
      rintro e w2 ⟨rfl, hb2⟩
      rw [tot_zero]
      go_wp2_with fail
      refine (bpbTotal_any 40 512 0 0 0 0 7 0 0 0 0 0 0 0 0 0 0 ⟨#[]⟩ ⟨#[]⟩ _ (by decide) (by decide) (by decide) (by decide) (by decide) (by decide) (by decide) (by decide) (by decide) (by decide) (by decide) (by decide) (by decide) (by decide) (by decide) (by decide) (by decide) (by decide) (by decide) (by decide) (by decide) (by decide) (by decide) (by decide) (by decide) (by decide) (by decide) (by decide) (by decide) (by decide) (by decide) (by decide)).mono ?_
      rintro e w3 ⟨rfl, hb3⟩
      rw [tot_zero]
      go_wp2_with fail
      go_ret
      refine ⟨rfl, Below.trans (Below.trans (Below.trans (Below.alloc (Below.refl _ _) ?_ _) (hb.mono ?_)) ?_) (hb3.mono ?_)⟩
      · simp
      · simp
      · refine Below.trans (Below.alloc (Below.refl _ _) ?_ _) (hb2.mono ?_)
        all_goals (have := hb.size; simp at this ⊢; try omega)
      · have := hb.size
        have := hb2.size
        simp at *
        omega
    · have hb0 : (l10 == 0) = false := by simpa using h0
      go_enter Try.func3, Try.ntmps3
      go_wp2_with fail
      refine (of2_lit l0 l1 l2 l3 l4 l5 l6 l7 l8 l9 l10 l11 l12 l13 l14 l15 _ a9 b9 a10 b10 a14 b14).mono ?_
      rintro e w1 ⟨rfl, hb⟩
      go_wp2_with fail
      refine (bpbTotal_any 40 512 (m8 l0) (m16 l1) (m8 l2) (m16 l3) (m16 l4) (m8 l5) (m16 l6) (m16 l7) (m16 l8) l9 l10 (m8 l11) (m8 l12) 41 l14 ⟨#[]⟩ ⟨#[]⟩ _ (by omega) (by omega) (m8_le l0).1 (m8_le l0).2 (m16_le l1).1 (m16_le l1).2 (m8_le l2).1 (m8_le l2).2 (m16_le l3).1 (m16_le l3).2 (m16_le l4).1 (m16_le l4).2 (m8_le l5).1 (m8_le l5).2 (m16_le l6).1 (m16_le l6).2 (m16_le l7).1 (m16_le l7).2 (m16_le l8).1 (m16_le l8).2 (by omega) (by omega) (by omega) (by omega) (m8_le l11).1 (m8_le l11).2 (m8_le l12).1 (m8_le l12).2 (by omega) (by omega) (by omega) (by omega)).mono ?_
      rintro e w2 ⟨rfl, hb2⟩
      rw [tot_ne h0]
      go_wp2_with fail
      refine (bpbTotal_any 40 512 0 0 0 0 7 0 0 0 0 0 0 0 0 0 0 ⟨#[]⟩ ⟨#[]⟩ _ (by decide) (by decide) (by decide) (by decide) (by decide) (by decide) (by decide) (by decide) (by decide) (by decide) (by decide) (by decide) (by decide) (by decide) (by decide) (by decide) (by decide) (by decide) (by decide) (by decide) (by decide) (by decide) (by decide) (by decide) (by decide) (by decide) (by decide) (by decide) (by decide) (by decide) (by decide) (by decide)).mono ?_
      rintro e w3 ⟨rfl, hb3⟩
      rw [tot_zero]
      go_wp2_with fail
      go_ret
      refine ⟨rfl, Below.trans (Below.trans (Below.trans (Below.alloc (Below.refl _ _) ?_ _) (hb.mono ?_)) ?_) (hb3.mono ?_)⟩
      · simp
      · simp
      · refine Below.trans (Below.alloc (Below.refl _ _) ?_ _) (hb2.mono ?_)
        all_goals (have := hb.size; simp at this ⊢; try omega)
      · have := hb.size
        have := hb2.size
        simp at *
        omega
  · skip
    go_enter Try.func3, Try.ntmps3
    go_wp2_with fail
    refine (of2_lit l0 l1 l2 l3 l4 l5 l6 l7 l8 l9 l10 l11 l12 l13 l14 l15 _ a9 b9 a10 b10 a14 b14).mono ?_
    rintro e w1 ⟨rfl, hb⟩
    go_wp2_with fail
    refine (bpbTotal_any 40 512 (m8 l0) (m16 l1) (m8 l2) (m16 l3) (m16 l4) (m8 l5) (m16 l6) (m16 l7) (m16 l8) l9 0 (m8 l11) (m8 l12) 41 l14 ⟨#[]⟩ ⟨#[]⟩ _ (by omega) (by omega) (m8_le l0).1 (m8_le l0).2 (m16_le l1).1 (m16_le l1).2 (m8_le l2).1 (m8_le l2).2 (m16_le l3).1 (m16_le l3).2 (m16_le l4).1 (m16_le l4).2 (m8_le l5).1 (m8_le l5).2 (m16_le l6).1 (m16_le l6).2 (m16_le l7).1 (m16_le l7).2 (m16_le l8).1 (m16_le l8).2 (by omega) (by omega) (by omega) (by omega) (m8_le l11).1 (m8_le l11).2 (m8_le l12).1 (m8_le l12).2 (by omega) (by omega) (by omega) (by omega)).mono ?_
    rintro e w2 ⟨rfl, hb2⟩
    rw [tot_zero]
    go_wp2_with fail
    refine (bpbTotal_any 40 512 0 0 0 0 7 0 0 0 0 0 0 0 0 0 0 ⟨#[]⟩ ⟨#[]⟩ _ (by decide) (by decide) (by decide) (by decide) (by decide) (by decide) (by decide) (by decide) (by decide) (by decide) (by decide) (by decide) (by decide) (by decide) (by decide) (by decide) (by decide) (by decide) (by decide) (by decide) (by decide) (by decide) (by decide) (by decide) (by decide) (by decide) (by decide) (by decide) (by decide) (by decide) (by decide) (by decide)).mono ?_
    rintro e w3 ⟨rfl, hb3⟩
    rw [tot_zero]
    go_wp2_with fail
    go_ret
    refine ⟨rfl, Below.trans (Below.trans (Below.trans (Below.alloc (Below.refl _ _) ?_ _) (hb.mono ?_)) ?_) (hb3.mono ?_)⟩
    · simp
    · simp
    · refine Below.trans (Below.alloc (Below.refl _ _) ?_ _) (hb2.mono ?_)
      all_goals (have := hb.size; simp at this ⊢; try omega)
    · have := hb.size
      have := hb2.size
      simp at *
      omega
end Go.Proofs.Ythocgjaloflclaa
