/- Walk of the law FnUnique. -/
import Derived.Test.YtginjbmjofkomaaUnC
namespace Go.Proofs.Ytginjbmjofkomaa
open Go.RowKit Go.Maps

theorem add_head (g k : Nat) : (⟨g, 0, none⟩ : Addr).add k = ⟨g, k, none⟩ := by
  unfold Addr.add
  split
  · rename_i e; rw [e]
  · simp
theorem nodup_take {ss : List Int} (h : ss.Nodup) {k : Nat} (hk : k < ss.length) : ss[k] ∉ ss.take k := fun hx => by
  obtain ⟨i, hi, e⟩ := List.mem_iff_getElem.1 hx
  rw [List.length_take] at hi
  rw [List.getElem_take] at e
  exact List.pairwise_iff_getElem.1 h i k (by omega) hk (by omega) e
set_option maxRecDepth 100000 in
set_option maxHeartbeats 1000000 in
theorem law_uniq_small (ad : Addr) (n c : Nat) (zs : List Int) (w : World) (hz : zs.length = n) (hc : n ≤ c) (_hm : c ≤ 9223372036854775807) (hbig : ¬ 2147483647 < n) (hcase : n ≤ 300) (hwf : ∀ x ∈ zs, (Lit.int .i64 x).wf = true) (h : IntsAt w w.heap.size (some ad) zs) :
    Calls Try.prog 3 #[.slice (some ad) n c] w fun e w' => e = .returned (.bool true) ∧ Below w.heap.size w w' := by
  obtain ⟨zt, hzt⟩ : ∃ zt, zt = zs.take n := ⟨_, rfl⟩
  have hzl : zt.length = n := by rw [hzt, List.length_take]; omega
  have hit : IntsAt w w.heap.size (some ad) zt := by rw [hzt]; exact h.take _
  have hwt : ∀ x ∈ zt, (Lit.int .i64 x).wf = true := fun x hx => hwf x (List.mem_of_mem_take (hzt ▸ hx))
  clear hzt h hwf hz
  have HI := Lib.hid hit
  have HZ := Lib.hid hzl
  have HW := Lib.hid hwt
  clear hit hzl hwt
  obtain ⟨i0, hi, hz0, hz1, hz2⟩ := info_parts Try.info3
  have HB := Lib.hid hz2
  clear hz2
  have hnews : ∀ j u, (zt.map (Value.int .i64))[j]? = some u → (w.alloc (.cells #[] 3)).cell? (ad.add j) = some u := fun j u hu => by
    have hj : j < zt.length := by
      rcases Nat.lt_or_ge j zt.length with hh | hh
      · exact hh
      · rw [List.getElem?_eq_none (by simpa using hh)] at hu; cases hu
    obtain ⟨ad', e, hl, hcell⟩ := HI.out j hj
    obtain rfl : ad' = ad := by injection e with e; exact e.symm
    rw [World.cell?_alloc_lt _ _ _ (by rw [addr_block]; exact hl), hcell, ← hu]
    simp [List.getElem?_eq_getElem hj]
  have HNW := Lib.hid hnews
  clear hnews
  go_enter Try.func3, Try.ntmps3
  go_wp2_with (first
    | (at_builtin; go_must (refine wpList_append_own _ rfl _ _ 22 rfl w.heap.size 3 i0 (.int .i64 0) 1 8 Try.underlying22 hi hz0 hz1 HB.out rfl (by decide) _ 0 [] rfl (own_empty w) ad n c (zt.map (.int .i64)) rfl (by rw [List.length_map, HZ.out, Nat.mul_one]) HNW.out (ints_oneCell .i64 zt) (by unfold maxLen; omega) (by omega) (by simp) ?_); go_must (intro v' w1 hown1 hgrow1 hnil1; simp only [Nat.zero_add, List.nil_append] at hown1); go_must (obtain ⟨A', c', rfl⟩ := own_shape hown1; have HI1 := Lib.hid (IntsAt.of_own hown1); have hb1 : Below w.heap.size w w1 := ((Below.refl _ _).alloc (Nat.le_refl _) _).grown hgrow1 (by simp) (fun j hj => by have e : some w.heap.size = some j := hj; injection e with e; omega); clear hown1 hgrow1 hnil1 HNW))
    | (go_at_call 6; refine (impl_uniq_any A' n c' zt _ HZ.out (by omega) HW.out (HI1.out)).mono ?_; rintro e w2 ⟨g, cap, ss, rfl, hnd, hmem, hl, hlc, hrow, hb2⟩; have HN := Lib.hid hnd; have HS := Lib.hid hmem; have HR := Lib.hid (IntsAt.of_own hrow); have HI2 := Lib.hid ((HI.out.below hb1).below (hb2.mono hb1.size)); have hB2 := hb1.trans (hb2.mono hb1.size); clear hnd hmem hrow hb2 HI HI1 hb1))
  go_loop [22] (fun i => ∃ k : Nat, k ≤ ss.length ∧ i = .int .i64 k) (fun i => ss.length - (intOf i).toNat)
  case atStart => exact ⟨0, Nat.zero_le _, rfl⟩
  case round =>
    obtain ⟨k, hk, rfl⟩ := hrel
    by_cases hlt : k < ss.length
    · obtain ⟨ad', hg', _, hcell⟩ := HR.out k hlt
      obtain rfl : ad' = ⟨g, 0, none⟩ := by injection hg' with e; exact e.symm
      obtain ⟨y, hy⟩ : ∃ y, y = ss.getD k 0 := ⟨_, rfl⟩
      have hcell2 : w2.cell? ⟨g, k, none⟩ = some (.int .i64 y) := by rw [hy, ← add_head]; exact hcell
      have hy1 : y ∈ ss := by rw [hy, getD_get hlt]; exact List.getElem_mem _
      have hy2 : y ∉ ss.take k := by rw [hy, getD_get hlt]; exact nodup_take HN.out hlt
      have HY1 := Lib.hid hy1
      have HY2 := Lib.hid hy2
      clear hcell hy hy1 hy2
      have ek : ¬ (cap = k) := by omega
      go_wp2_with (first
        | (go_at_call 7; (with_reducible refine (hasInt_yes (some ad) n c _ zt y _ HZ.out (by omega) HI2.out ((HS.out y).1 HY1.out)).mono ?_); rintro e w3 ⟨rfl, rfl⟩)
        | (go_at_call 7; (with_reducible refine (hasInt_no (some ⟨g, 0, none⟩) k cap _ (ss.take k) y _ (by rw [List.length_take]; omega) (by omega) (HR.out.take k) HY2.out).mono ?_); rintro e w3 ⟨rfl, rfl⟩))
      go_round
      case rel => exact ⟨k + 1, by omega, by go_num⟩
      case measure => simp [intOf]; omega
    · go_wp2
      go_loop [41] (fun i => ∃ k : Nat, k ≤ n ∧ i = .int .i64 k) (fun i => n - (intOf i).toNat)
      case atStart => exact ⟨0, Nat.zero_le _, rfl⟩
      case round =>
        obtain ⟨j, hj, rfl⟩ := hrel
        by_cases hjl : j < n
        · obtain ⟨ad', hg', _, hcell⟩ := HI2.out j (by rw [HZ.out]; exact hjl)
          obtain rfl : ad' = ad := by injection hg' with e; exact e.symm
          obtain ⟨y, hy⟩ : ∃ y, y = zt.getD j 0 := ⟨_, rfl⟩
          rw [← hy] at hcell
          have hy1 : y ∈ zt := by rw [hy, getD_get (by rw [HZ.out]; exact hjl)]; exact List.getElem_mem _
          have HY1 := Lib.hid hy1
          clear hy hy1
          go_wp2_with (go_at_call 7; refine (hasInt_yes (some ⟨g, 0, none⟩) ss.length cap _ ss y _ rfl (by omega) HR.out ((HS.out y).2 HY1.out)).mono ?_; rintro e w3 ⟨rfl, rfl⟩)
          go_round
          case rel => exact ⟨j + 1, by omega, by go_num⟩
          case measure => simp [intOf]; omega
        · go_wp2_with (go_at_call 6; refine (uniq_ones _ w2.heap.size (by simp) (by simp [go_sem]) (by simp [go_sem])).mono ?_; rintro e w3 ⟨g', cap', rfl, hb3⟩)
          go_ret
          refine ⟨rfl, ?_⟩
          exact (hB2.alloc hB2.size _).trans (hb3.mono (by have := hB2.size; simp; omega))
set_option maxRecDepth 100000 in
set_option maxHeartbeats 1000000 in
theorem law_uniq_great (ad : Addr) (n c : Nat) (zs : List Int) (w : World) (hz : zs.length = n) (hc : n ≤ c) (_hm : c ≤ 9223372036854775807) (hbig : ¬ 2147483647 < n) (hcase : 300 < n) (hwf : ∀ x ∈ zs, (Lit.int .i64 x).wf = true) (h : IntsAt w w.heap.size (some ad) zs) :
    Calls Try.prog 3 #[.slice (some ad) n c] w fun e w' => e = .returned (.bool true) ∧ Below w.heap.size w w' := by
  obtain ⟨zt, hzt⟩ : ∃ zt, zt = zs.take 300 := ⟨_, rfl⟩
  have hzl : zt.length = 300 := by rw [hzt, List.length_take]; omega
  have hit : IntsAt w w.heap.size (some ad) zt := by rw [hzt]; exact h.take _
  have hwt : ∀ x ∈ zt, (Lit.int .i64 x).wf = true := fun x hx => hwf x (List.mem_of_mem_take (hzt ▸ hx))
  clear hzt h hwf hz
  have HI := Lib.hid hit
  have HZ := Lib.hid hzl
  have HW := Lib.hid hwt
  clear hit hzl hwt
  obtain ⟨i0, hi, hz0, hz1, hz2⟩ := info_parts Try.info3
  have HB := Lib.hid hz2
  clear hz2
  have hnews : ∀ j u, (zt.map (Value.int .i64))[j]? = some u → (w.alloc (.cells #[] 3)).cell? (ad.add j) = some u := fun j u hu => by
    have hj : j < zt.length := by
      rcases Nat.lt_or_ge j zt.length with hh | hh
      · exact hh
      · rw [List.getElem?_eq_none (by simpa using hh)] at hu; cases hu
    obtain ⟨ad', e, hl, hcell⟩ := HI.out j hj
    obtain rfl : ad' = ad := by injection e with e; exact e.symm
    rw [World.cell?_alloc_lt _ _ _ (by rw [addr_block]; exact hl), hcell, ← hu]
    simp [List.getElem?_eq_getElem hj]
  have HNW := Lib.hid hnews
  clear hnews
  go_enter Try.func3, Try.ntmps3
  go_wp2_with (first
    | (at_builtin; go_must (refine wpList_append_own _ rfl _ _ 22 rfl w.heap.size 3 i0 (.int .i64 0) 1 8 Try.underlying22 hi hz0 hz1 HB.out rfl (by decide) _ 0 [] rfl (own_empty w) ad 300 c (zt.map (.int .i64)) rfl (by rw [List.length_map, HZ.out, Nat.mul_one]) HNW.out (ints_oneCell .i64 zt) (by unfold maxLen; omega) (by omega) (by simp) ?_); go_must (intro v' w1 hown1 hgrow1 hnil1; simp only [Nat.zero_add, List.nil_append] at hown1); go_must (obtain ⟨A', c', rfl⟩ := own_shape hown1; have HI1 := Lib.hid (IntsAt.of_own hown1); have hb1 : Below w.heap.size w w1 := ((Below.refl _ _).alloc (Nat.le_refl _) _).grown hgrow1 (by simp) (fun j hj => by have e : some w.heap.size = some j := hj; injection e with e; omega); clear hown1 hgrow1 hnil1 HNW))
    | (go_at_call 6; refine (impl_uniq_any A' 300 c' zt _ HZ.out (by omega) HW.out (HI1.out)).mono ?_; rintro e w2 ⟨g, cap, ss, rfl, hnd, hmem, hl, hlc, hrow, hb2⟩; have HN := Lib.hid hnd; have HS := Lib.hid hmem; have HR := Lib.hid (IntsAt.of_own hrow); have HI2 := Lib.hid ((HI.out.below hb1).below (hb2.mono hb1.size)); have hB2 := hb1.trans (hb2.mono hb1.size); clear hnd hmem hrow hb2 HI HI1 hb1))
  go_loop [22] (fun i => ∃ k : Nat, k ≤ ss.length ∧ i = .int .i64 k) (fun i => ss.length - (intOf i).toNat)
  case atStart => exact ⟨0, Nat.zero_le _, rfl⟩
  case round =>
    obtain ⟨k, hk, rfl⟩ := hrel
    by_cases hlt : k < ss.length
    · obtain ⟨ad', hg', _, hcell⟩ := HR.out k hlt
      obtain rfl : ad' = ⟨g, 0, none⟩ := by injection hg' with e; exact e.symm
      obtain ⟨y, hy⟩ : ∃ y, y = ss.getD k 0 := ⟨_, rfl⟩
      have hcell2 : w2.cell? ⟨g, k, none⟩ = some (.int .i64 y) := by rw [hy, ← add_head]; exact hcell
      have hy1 : y ∈ ss := by rw [hy, getD_get hlt]; exact List.getElem_mem _
      have hy2 : y ∉ ss.take k := by rw [hy, getD_get hlt]; exact nodup_take HN.out hlt
      have HY1 := Lib.hid hy1
      have HY2 := Lib.hid hy2
      clear hcell hy hy1 hy2
      have ek : ¬ (cap = k) := by omega
      go_wp2_with (first
        | (go_at_call 7; (with_reducible refine (hasInt_yes (some ad) 300 c _ zt y _ HZ.out (by omega) HI2.out ((HS.out y).1 HY1.out)).mono ?_); rintro e w3 ⟨rfl, rfl⟩)
        | (go_at_call 7; (with_reducible refine (hasInt_no (some ⟨g, 0, none⟩) k cap _ (ss.take k) y _ (by rw [List.length_take]; omega) (by omega) (HR.out.take k) HY2.out).mono ?_); rintro e w3 ⟨rfl, rfl⟩))
      go_round
      case rel => exact ⟨k + 1, by omega, by go_num⟩
      case measure => simp [intOf]; omega
    · go_wp2
      go_loop [41] (fun i => ∃ k : Nat, k ≤ 300 ∧ i = .int .i64 k) (fun i => 300 - (intOf i).toNat)
      case atStart => exact ⟨0, Nat.zero_le _, rfl⟩
      case round =>
        obtain ⟨j, hj, rfl⟩ := hrel
        by_cases hjl : j < 300
        · obtain ⟨ad', hg', _, hcell⟩ := HI2.out j (by rw [HZ.out]; exact hjl)
          obtain rfl : ad' = ad := by injection hg' with e; exact e.symm
          obtain ⟨y, hy⟩ : ∃ y, y = zt.getD j 0 := ⟨_, rfl⟩
          rw [← hy] at hcell
          have hy1 : y ∈ zt := by rw [hy, getD_get (by rw [HZ.out]; exact hjl)]; exact List.getElem_mem _
          have HY1 := Lib.hid hy1
          clear hy hy1
          go_wp2_with (go_at_call 7; refine (hasInt_yes (some ⟨g, 0, none⟩) ss.length cap _ ss y _ rfl (by omega) HR.out ((HS.out y).2 HY1.out)).mono ?_; rintro e w3 ⟨rfl, rfl⟩)
          go_round
          case rel => exact ⟨j + 1, by omega, by go_num⟩
          case measure => simp [intOf]; omega
        · go_wp2_with (go_at_call 6; refine (uniq_ones _ w2.heap.size (by simp) (by simp [go_sem]) (by simp [go_sem])).mono ?_; rintro e w3 ⟨g', cap', rfl, hb3⟩)
          go_ret
          refine ⟨rfl, ?_⟩
          exact (hB2.alloc hB2.size _).trans (hb3.mono (by have := hB2.size; simp; omega))
set_option maxRecDepth 100000 in
set_option maxHeartbeats 1000000 in
theorem law_uniq_nil (w : World) : Calls Try.prog 3 #[.slice none 0 0] w fun e w' => e = .returned (.bool true) ∧ Below w.heap.size w w' := by
  obtain ⟨i0, hi, hz0, hz1, hz2⟩ := info_parts Try.info3
  have HI1 : Hid (∀ (w : World) B A, IntsAt w B A []) := Lib.hid (fun w B A j hj => by simp at hj)
  go_enter Try.func3, Try.ntmps3
  go_wp2_with (first
    | (at_builtin; refine wpList_append_own_none rfl _ _ 22 rfl w.heap.size 3 i0 1 Try.underlying22 hi _ 0 [] rfl (own_empty w) rfl ?_)
    | (go_at_call 6; refine (impl_uniq_any (some ⟨w.heap.size, 0, none⟩) 0 0 [] _ rfl (by omega) (by simp) (HI1.out _ _ _)).mono ?_; rintro e w2 ⟨g, cap, ss, rfl, hnd, hmem, hl, hlc, hrow, hb2⟩; obtain rfl : ss = [] := List.length_eq_zero_iff.1 (by omega); have hB2 : Below w.heap.size w w2 := ((Below.refl _ _).alloc (Nat.le_refl _) _).trans (hb2.mono (by simp)); clear hnd hmem hrow hb2 HI1))
  refine wp_loop_rounds 1 ?_
  rw [rounds_succ]
  go_wp2
  refine wp_loop_rounds 1 ?_
  rw [rounds_succ]
  go_wp2_with (go_at_call 6; refine (uniq_ones _ w2.heap.size (by simp) (by simp [go_sem]) (by simp [go_sem])).mono ?_; rintro e w3 ⟨g', cap', rfl, hb3⟩)
  go_ret
  refine ⟨rfl, ?_⟩
  exact (hB2.alloc hB2.size _).trans (hb3.mono (by have := hB2.size; simp; omega))
end Go.Proofs.Ytginjbmjofkomaa
