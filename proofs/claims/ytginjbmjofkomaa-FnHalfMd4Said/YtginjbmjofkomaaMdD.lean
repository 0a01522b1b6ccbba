/- Walk of spec.HalfMd4. -/
import Derived.Test.YtginjbmjofkomaaMdC
namespace Go.Proofs.Ytginjbmjofkomaa
open Go.RowKit

set_option maxRecDepth 100000 in
set_option maxHeartbeats 40000000 in
theorem spec_md4_any (b0 b1 b2 b3 i0 i1 i2 i3 i4 i5 i6 i7 : Int) (w : World) :
    Calls Try.prog 11 #[.agg #[.int .u32 b0, .int .u32 b1, .int .u32 b2, .int .u32 b3], .agg #[.int .u32 i0, .int .u32 i1, .int .u32 i2, .int .u32 i3, .int .u32 i4, .int .u32 i5, .int .u32 i6, .int .u32 i7]] w
      fun e w' => e = .returned (.int .u32 (mdOut b0 b1 b2 b3 i0 i1 i2 i3 i4 i5 i6 i7)) ∧ Below w.heap.size w w' := by
  go_enter Try.func11, Try.ntmps11
  go_wp2_with (first | (refine wpList_store_new rfl 38 _ _ (by rfl) (w.heap.size + 1 + 1 + 1) ?_ _ _ _ (by rfl) (by rfl) (by rfl) (by kernel_rfl) ?_ ?_; (simp); (simp [Value.oneCell'])) | (refine wpList_store_new rfl 40 _ _ (by rfl) (w.heap.size + 1 + 1 + 1 + 1) ?_ _ _ _ (by rfl) (by rfl) (by rfl) (by kernel_rfl) ?_ ?_; (simp); (simp [Value.oneCell'])))
  go_loopw [27] (fun r wr => ∃ n : Nat, n ≤ 3 ∧ r = .int .i64 n ∧ MdW w wr b0 b1 b2 b3 i0 i1 i2 i3 i4 i5 i6 i7 (mdS b0 b1 b2 b3 i0 i1 i2 i3 i4 i5 i6 i7 (8 * n))) (fun r _ => 3 - (intOf r).toNat)
  case atStart =>
    obtain ⟨h0, h1, h2, h3, h4, h5, h6, h7⟩ := alloc6 w _ _ _ _ _ _ _ rfl
    exact ⟨0, by omega, rfl, ⟨h6, h7, h0, h1, h2, h3, h4, h5⟩⟩
  case round =>
    obtain ⟨n, hn, rfl, hW⟩ := hrel
    by_cases h : n < 3
    · obtain rfl | rfl | rfl : n = 0 ∨ n = 1 ∨ n = 2 := by omega
      · go_wp2
        go_loopw [30] (fun t wv => ∃ k : Nat, k ≤ 8 ∧ t = .int .i64 k ∧ MdW w wv b0 b1 b2 b3 i0 i1 i2 i3 i4 i5 i6 i7 (unr k (mdS b0 b1 b2 b3 i0 i1 i2 i3 i4 i5 i6 i7 (0 + k)))) (fun t _ => 8 - (intOf t).toNat)
        case atStart => exact ⟨0, by omega, rfl, hW⟩
        case round =>
          obtain ⟨k, hk, rfl, hV⟩ := hrel
          by_cases h8 : k < 8
          · obtain rfl | rfl | rfl | rfl | rfl | rfl | rfl | rfl : k = 0 ∨ k = 1 ∨ k = 2 ∨ k = 3 ∨ k = 4 ∨ k = 5 ∨ k = 6 ∨ k = 7 := by omega
            · as_aux_lemma =>
              obtain ⟨⟨A, Bq, C, D⟩, hq⟩ : ∃ q, q = unr 0 (mdS b0 b1 b2 b3 i0 i1 i2 i3 i4 i5 i6 i7 0) := ⟨_, rfl⟩
              rw [← hq] at hV
              have HQ := Lib.hid hq; clear hq
              have x0 : wr.cell? ⟨w.heap.size + 1 + 1, 0, none⟩ = some (.int .u32 A) := cell_of_row _ _ 0 _ _ _ hV.x
              have x1 : wr.cell? ⟨w.heap.size + 1 + 1, 1, none⟩ = some (.int .u32 Bq) := cell_of_row _ _ 1 _ _ _ hV.x
              have x2 : wr.cell? ⟨w.heap.size + 1 + 1, 2, none⟩ = some (.int .u32 C) := cell_of_row _ _ 2 _ _ _ hV.x
              have x3 : wr.cell? ⟨w.heap.size + 1 + 1, 3, none⟩ = some (.int .u32 D) := cell_of_row _ _ 3 _ _ _ hV.x
              have xf : wr.frozen? ⟨w.heap.size + 1 + 1, 0, none⟩ = false := frozen_of_row _ _ 0 _ _ hV.x
              have y1 : wr.cell? ⟨w.heap.size + 1 + 1 + 1, 0, none⟩ = some (.int .i64 0) := cell_of_row _ _ 0 _ _ _ hV.ord
              have y2 : wr.cell? ⟨w.heap.size + 1, 0, none⟩ = some (.int .u32 i0) := cell_of_row _ _ 0 _ _ _ hV.inp
              have y3 : wr.cell? ⟨w.heap.size + 1 + 1 + 1 + 1 + 1, 0, none⟩ = some (.int .u32 0) := cell_of_row _ _ 0 _ _ _ hV.add
              have y4 : wr.cell? ⟨w.heap.size + 1 + 1 + 1 + 1, 0, none⟩ = some (.int .i64 3) := cell_of_row _ _ 0 _ _ _ hV.turn
              have HV := Lib.hid hV; clear hV
              go_wp2
              go_quiet (fail)
              go_wp2
              go_region_held3 (fun w' => w'.cell? ⟨w.heap.size + 1 + 1 + 1, 0, none⟩ = some (.int .i64 0) ∧ w'.cell? ⟨w.heap.size + 1, 0, none⟩ = some (.int .u32 i0) ∧ w'.cell? ⟨w.heap.size + 1 + 1 + 1 + 1 + 1, 0, none⟩ = some (.int .u32 0) ∧ w'.cell? ⟨w.heap.size + 1 + 1 + 1 + 1, 0, none⟩ = some (.int .i64 3)) (go_keep) (first | (go_at_call 15; refine (rotb_any _ _ _ (by decide) (by decide)).mono ?_; rintro e w' ⟨rfl, rfl⟩))
              go_wp2
              go_roundw
              case rel =>
                (repeat apply Exists.intro)
                refine ⟨⟨1, by omega, by go_num, ?_⟩, rfl⟩
                have e : ∀ t, t = (A + fW 0 Bq C D + i0 % 4294967296) % 4294967296 → rotW t 3 = R 0 A Bq C D (i0 % 4294967296) 3 := by rintro _ rfl; rfl
                rw [e _ (by simp only [fW]; omega)]
                have hq := HQ.out
                have hV := HV.out
                clear e HQ HV x0 x1 x2 x3 xf y1 y2 y3 y4
                rw [show (0 + 1 : Nat) = 0 + 1 from rfl, mdS_succ _ _ _ _ _ _ _ _ _ _ _ _ 0 (0, i0 % 4294967296, 3) rfl]
                generalize mdS b0 b1 b2 b3 i0 i1 i2 i3 i4 i5 i6 i7 0 = T at hq ⊢
                obtain ⟨t0, t1, t2, t3⟩ := T
                simp only [unr, Prod.mk.injEq] at hq
                obtain ⟨rfl, rfl, rfl, rfl⟩ := hq
                exact hV.store _ 0 _ _ rfl
              case measure => simp [intOf]
            · as_aux_lemma =>
              obtain ⟨⟨A, Bq, C, D⟩, hq⟩ : ∃ q, q = unr 1 (mdS b0 b1 b2 b3 i0 i1 i2 i3 i4 i5 i6 i7 1) := ⟨_, rfl⟩
              rw [← hq] at hV
              have HQ := Lib.hid hq; clear hq
              have x0 : wr.cell? ⟨w.heap.size + 1 + 1, 0, none⟩ = some (.int .u32 A) := cell_of_row _ _ 0 _ _ _ hV.x
              have x1 : wr.cell? ⟨w.heap.size + 1 + 1, 1, none⟩ = some (.int .u32 Bq) := cell_of_row _ _ 1 _ _ _ hV.x
              have x2 : wr.cell? ⟨w.heap.size + 1 + 1, 2, none⟩ = some (.int .u32 C) := cell_of_row _ _ 2 _ _ _ hV.x
              have x3 : wr.cell? ⟨w.heap.size + 1 + 1, 3, none⟩ = some (.int .u32 D) := cell_of_row _ _ 3 _ _ _ hV.x
              have xf : wr.frozen? ⟨w.heap.size + 1 + 1, 3, none⟩ = false := frozen_of_row _ _ 3 _ _ hV.x
              have y1 : wr.cell? ⟨w.heap.size + 1 + 1 + 1, 1, none⟩ = some (.int .i64 1) := cell_of_row _ _ 1 _ _ _ hV.ord
              have y2 : wr.cell? ⟨w.heap.size + 1, 1, none⟩ = some (.int .u32 i1) := cell_of_row _ _ 1 _ _ _ hV.inp
              have y3 : wr.cell? ⟨w.heap.size + 1 + 1 + 1 + 1 + 1, 0, none⟩ = some (.int .u32 0) := cell_of_row _ _ 0 _ _ _ hV.add
              have y4 : wr.cell? ⟨w.heap.size + 1 + 1 + 1 + 1, 1, none⟩ = some (.int .i64 7) := cell_of_row _ _ 1 _ _ _ hV.turn
              have HV := Lib.hid hV; clear hV
              go_wp2
              go_quiet (fail)
              go_wp2
              go_region_held3 (fun w' => w'.cell? ⟨w.heap.size + 1 + 1 + 1, 1, none⟩ = some (.int .i64 1) ∧ w'.cell? ⟨w.heap.size + 1, 1, none⟩ = some (.int .u32 i1) ∧ w'.cell? ⟨w.heap.size + 1 + 1 + 1 + 1 + 1, 0, none⟩ = some (.int .u32 0) ∧ w'.cell? ⟨w.heap.size + 1 + 1 + 1 + 1, 1, none⟩ = some (.int .i64 7)) (go_keep) (first | (go_at_call 15; refine (rotb_any _ _ _ (by decide) (by decide)).mono ?_; rintro e w' ⟨rfl, rfl⟩))
              go_wp2
              go_roundw
              case rel =>
                (repeat apply Exists.intro)
                refine ⟨⟨2, by omega, by go_num, ?_⟩, rfl⟩
                have e : ∀ t, t = (D + fW 0 A Bq C + i1 % 4294967296) % 4294967296 → rotW t 7 = R 0 D A Bq C (i1 % 4294967296) 7 := by rintro _ rfl; rfl
                rw [e _ (by simp only [fW]; omega)]
                have hq := HQ.out
                have hV := HV.out
                clear e HQ HV x0 x1 x2 x3 xf y1 y2 y3 y4
                rw [show (0 + 2 : Nat) = 1 + 1 from rfl, mdS_succ _ _ _ _ _ _ _ _ _ _ _ _ 1 (0, i1 % 4294967296, 7) rfl]
                generalize mdS b0 b1 b2 b3 i0 i1 i2 i3 i4 i5 i6 i7 1 = T at hq ⊢
                obtain ⟨t0, t1, t2, t3⟩ := T
                simp only [unr, Prod.mk.injEq] at hq
                obtain ⟨rfl, rfl, rfl, rfl⟩ := hq
                exact hV.store _ 3 _ _ rfl
              case measure => simp [intOf]
            · as_aux_lemma =>
              obtain ⟨⟨A, Bq, C, D⟩, hq⟩ : ∃ q, q = unr 2 (mdS b0 b1 b2 b3 i0 i1 i2 i3 i4 i5 i6 i7 2) := ⟨_, rfl⟩
              rw [← hq] at hV
              have HQ := Lib.hid hq; clear hq
              have x0 : wr.cell? ⟨w.heap.size + 1 + 1, 0, none⟩ = some (.int .u32 A) := cell_of_row _ _ 0 _ _ _ hV.x
              have x1 : wr.cell? ⟨w.heap.size + 1 + 1, 1, none⟩ = some (.int .u32 Bq) := cell_of_row _ _ 1 _ _ _ hV.x
              have x2 : wr.cell? ⟨w.heap.size + 1 + 1, 2, none⟩ = some (.int .u32 C) := cell_of_row _ _ 2 _ _ _ hV.x
              have x3 : wr.cell? ⟨w.heap.size + 1 + 1, 3, none⟩ = some (.int .u32 D) := cell_of_row _ _ 3 _ _ _ hV.x
              have xf : wr.frozen? ⟨w.heap.size + 1 + 1, 2, none⟩ = false := frozen_of_row _ _ 2 _ _ hV.x
              have y1 : wr.cell? ⟨w.heap.size + 1 + 1 + 1, 2, none⟩ = some (.int .i64 2) := cell_of_row _ _ 2 _ _ _ hV.ord
              have y2 : wr.cell? ⟨w.heap.size + 1, 2, none⟩ = some (.int .u32 i2) := cell_of_row _ _ 2 _ _ _ hV.inp
              have y3 : wr.cell? ⟨w.heap.size + 1 + 1 + 1 + 1 + 1, 0, none⟩ = some (.int .u32 0) := cell_of_row _ _ 0 _ _ _ hV.add
              have y4 : wr.cell? ⟨w.heap.size + 1 + 1 + 1 + 1, 2, none⟩ = some (.int .i64 11) := cell_of_row _ _ 2 _ _ _ hV.turn
              have HV := Lib.hid hV; clear hV
              go_wp2
              go_quiet (fail)
              go_wp2
              go_region_held3 (fun w' => w'.cell? ⟨w.heap.size + 1 + 1 + 1, 2, none⟩ = some (.int .i64 2) ∧ w'.cell? ⟨w.heap.size + 1, 2, none⟩ = some (.int .u32 i2) ∧ w'.cell? ⟨w.heap.size + 1 + 1 + 1 + 1 + 1, 0, none⟩ = some (.int .u32 0) ∧ w'.cell? ⟨w.heap.size + 1 + 1 + 1 + 1, 2, none⟩ = some (.int .i64 11)) (go_keep) (first | (go_at_call 15; refine (rotb_any _ _ _ (by decide) (by decide)).mono ?_; rintro e w' ⟨rfl, rfl⟩))
              go_wp2
              go_roundw
              case rel =>
                (repeat apply Exists.intro)
                refine ⟨⟨3, by omega, by go_num, ?_⟩, rfl⟩
                have e : ∀ t, t = (C + fW 0 D A Bq + i2 % 4294967296) % 4294967296 → rotW t 11 = R 0 C D A Bq (i2 % 4294967296) 11 := by rintro _ rfl; rfl
                rw [e _ (by simp only [fW]; omega)]
                have hq := HQ.out
                have hV := HV.out
                clear e HQ HV x0 x1 x2 x3 xf y1 y2 y3 y4
                rw [show (0 + 3 : Nat) = 2 + 1 from rfl, mdS_succ _ _ _ _ _ _ _ _ _ _ _ _ 2 (0, i2 % 4294967296, 11) rfl]
                generalize mdS b0 b1 b2 b3 i0 i1 i2 i3 i4 i5 i6 i7 2 = T at hq ⊢
                obtain ⟨t0, t1, t2, t3⟩ := T
                simp only [unr, Prod.mk.injEq] at hq
                obtain ⟨rfl, rfl, rfl, rfl⟩ := hq
                exact hV.store _ 2 _ _ rfl
              case measure => simp [intOf]
            · as_aux_lemma =>
              obtain ⟨⟨A, Bq, C, D⟩, hq⟩ : ∃ q, q = unr 3 (mdS b0 b1 b2 b3 i0 i1 i2 i3 i4 i5 i6 i7 3) := ⟨_, rfl⟩
              rw [← hq] at hV
              have HQ := Lib.hid hq; clear hq
              have x0 : wr.cell? ⟨w.heap.size + 1 + 1, 0, none⟩ = some (.int .u32 A) := cell_of_row _ _ 0 _ _ _ hV.x
              have x1 : wr.cell? ⟨w.heap.size + 1 + 1, 1, none⟩ = some (.int .u32 Bq) := cell_of_row _ _ 1 _ _ _ hV.x
              have x2 : wr.cell? ⟨w.heap.size + 1 + 1, 2, none⟩ = some (.int .u32 C) := cell_of_row _ _ 2 _ _ _ hV.x
              have x3 : wr.cell? ⟨w.heap.size + 1 + 1, 3, none⟩ = some (.int .u32 D) := cell_of_row _ _ 3 _ _ _ hV.x
              have xf : wr.frozen? ⟨w.heap.size + 1 + 1, 1, none⟩ = false := frozen_of_row _ _ 1 _ _ hV.x
              have y1 : wr.cell? ⟨w.heap.size + 1 + 1 + 1, 3, none⟩ = some (.int .i64 3) := cell_of_row _ _ 3 _ _ _ hV.ord
              have y2 : wr.cell? ⟨w.heap.size + 1, 3, none⟩ = some (.int .u32 i3) := cell_of_row _ _ 3 _ _ _ hV.inp
              have y3 : wr.cell? ⟨w.heap.size + 1 + 1 + 1 + 1 + 1, 0, none⟩ = some (.int .u32 0) := cell_of_row _ _ 0 _ _ _ hV.add
              have y4 : wr.cell? ⟨w.heap.size + 1 + 1 + 1 + 1, 3, none⟩ = some (.int .i64 19) := cell_of_row _ _ 3 _ _ _ hV.turn
              have HV := Lib.hid hV; clear hV
              go_wp2
              go_quiet (fail)
              go_wp2
              go_region_held3 (fun w' => w'.cell? ⟨w.heap.size + 1 + 1 + 1, 3, none⟩ = some (.int .i64 3) ∧ w'.cell? ⟨w.heap.size + 1, 3, none⟩ = some (.int .u32 i3) ∧ w'.cell? ⟨w.heap.size + 1 + 1 + 1 + 1 + 1, 0, none⟩ = some (.int .u32 0) ∧ w'.cell? ⟨w.heap.size + 1 + 1 + 1 + 1, 3, none⟩ = some (.int .i64 19)) (go_keep) (first | (go_at_call 15; refine (rotb_any _ _ _ (by decide) (by decide)).mono ?_; rintro e w' ⟨rfl, rfl⟩))
              go_wp2
              go_roundw
              case rel =>
                (repeat apply Exists.intro)
                refine ⟨⟨4, by omega, by go_num, ?_⟩, rfl⟩
                have e : ∀ t, t = (Bq + fW 0 C D A + i3 % 4294967296) % 4294967296 → rotW t 19 = R 0 Bq C D A (i3 % 4294967296) 19 := by rintro _ rfl; rfl
                rw [e _ (by simp only [fW]; omega)]
                have hq := HQ.out
                have hV := HV.out
                clear e HQ HV x0 x1 x2 x3 xf y1 y2 y3 y4
                rw [show (0 + 4 : Nat) = 3 + 1 from rfl, mdS_succ _ _ _ _ _ _ _ _ _ _ _ _ 3 (0, i3 % 4294967296, 19) rfl]
                generalize mdS b0 b1 b2 b3 i0 i1 i2 i3 i4 i5 i6 i7 3 = T at hq ⊢
                obtain ⟨t0, t1, t2, t3⟩ := T
                simp only [unr, Prod.mk.injEq] at hq
                obtain ⟨rfl, rfl, rfl, rfl⟩ := hq
                exact hV.store _ 1 _ _ rfl
              case measure => simp [intOf]
            · as_aux_lemma =>
              obtain ⟨⟨A, Bq, C, D⟩, hq⟩ : ∃ q, q = unr 4 (mdS b0 b1 b2 b3 i0 i1 i2 i3 i4 i5 i6 i7 4) := ⟨_, rfl⟩
              rw [← hq] at hV
              have HQ := Lib.hid hq; clear hq
              have x0 : wr.cell? ⟨w.heap.size + 1 + 1, 0, none⟩ = some (.int .u32 A) := cell_of_row _ _ 0 _ _ _ hV.x
              have x1 : wr.cell? ⟨w.heap.size + 1 + 1, 1, none⟩ = some (.int .u32 Bq) := cell_of_row _ _ 1 _ _ _ hV.x
              have x2 : wr.cell? ⟨w.heap.size + 1 + 1, 2, none⟩ = some (.int .u32 C) := cell_of_row _ _ 2 _ _ _ hV.x
              have x3 : wr.cell? ⟨w.heap.size + 1 + 1, 3, none⟩ = some (.int .u32 D) := cell_of_row _ _ 3 _ _ _ hV.x
              have xf : wr.frozen? ⟨w.heap.size + 1 + 1, 0, none⟩ = false := frozen_of_row _ _ 0 _ _ hV.x
              have y1 : wr.cell? ⟨w.heap.size + 1 + 1 + 1, 4, none⟩ = some (.int .i64 4) := cell_of_row _ _ 4 _ _ _ hV.ord
              have y2 : wr.cell? ⟨w.heap.size + 1, 4, none⟩ = some (.int .u32 i4) := cell_of_row _ _ 4 _ _ _ hV.inp
              have y3 : wr.cell? ⟨w.heap.size + 1 + 1 + 1 + 1 + 1, 0, none⟩ = some (.int .u32 0) := cell_of_row _ _ 0 _ _ _ hV.add
              have y4 : wr.cell? ⟨w.heap.size + 1 + 1 + 1 + 1, 0, none⟩ = some (.int .i64 3) := cell_of_row _ _ 0 _ _ _ hV.turn
              have HV := Lib.hid hV; clear hV
              go_wp2
              go_quiet (fail)
              go_wp2
              go_region_held3 (fun w' => w'.cell? ⟨w.heap.size + 1 + 1 + 1, 4, none⟩ = some (.int .i64 4) ∧ w'.cell? ⟨w.heap.size + 1, 4, none⟩ = some (.int .u32 i4) ∧ w'.cell? ⟨w.heap.size + 1 + 1 + 1 + 1 + 1, 0, none⟩ = some (.int .u32 0) ∧ w'.cell? ⟨w.heap.size + 1 + 1 + 1 + 1, 0, none⟩ = some (.int .i64 3)) (go_keep) (first | (go_at_call 15; refine (rotb_any _ _ _ (by decide) (by decide)).mono ?_; rintro e w' ⟨rfl, rfl⟩))
              go_wp2
              go_roundw
              case rel =>
                (repeat apply Exists.intro)
                refine ⟨⟨5, by omega, by go_num, ?_⟩, rfl⟩
                have e : ∀ t, t = (A + fW 0 Bq C D + i4 % 4294967296) % 4294967296 → rotW t 3 = R 0 A Bq C D (i4 % 4294967296) 3 := by rintro _ rfl; rfl
                rw [e _ (by simp only [fW]; omega)]
                have hq := HQ.out
                have hV := HV.out
                clear e HQ HV x0 x1 x2 x3 xf y1 y2 y3 y4
                rw [show (0 + 5 : Nat) = 4 + 1 from rfl, mdS_succ _ _ _ _ _ _ _ _ _ _ _ _ 4 (0, i4 % 4294967296, 3) rfl]
                generalize mdS b0 b1 b2 b3 i0 i1 i2 i3 i4 i5 i6 i7 4 = T at hq ⊢
                obtain ⟨t0, t1, t2, t3⟩ := T
                simp only [unr, Prod.mk.injEq] at hq
                obtain ⟨rfl, rfl, rfl, rfl⟩ := hq
                exact hV.store _ 0 _ _ rfl
              case measure => simp [intOf]
            · as_aux_lemma =>
              obtain ⟨⟨A, Bq, C, D⟩, hq⟩ : ∃ q, q = unr 5 (mdS b0 b1 b2 b3 i0 i1 i2 i3 i4 i5 i6 i7 5) := ⟨_, rfl⟩
              rw [← hq] at hV
              have HQ := Lib.hid hq; clear hq
              have x0 : wr.cell? ⟨w.heap.size + 1 + 1, 0, none⟩ = some (.int .u32 A) := cell_of_row _ _ 0 _ _ _ hV.x
              have x1 : wr.cell? ⟨w.heap.size + 1 + 1, 1, none⟩ = some (.int .u32 Bq) := cell_of_row _ _ 1 _ _ _ hV.x
              have x2 : wr.cell? ⟨w.heap.size + 1 + 1, 2, none⟩ = some (.int .u32 C) := cell_of_row _ _ 2 _ _ _ hV.x
              have x3 : wr.cell? ⟨w.heap.size + 1 + 1, 3, none⟩ = some (.int .u32 D) := cell_of_row _ _ 3 _ _ _ hV.x
              have xf : wr.frozen? ⟨w.heap.size + 1 + 1, 3, none⟩ = false := frozen_of_row _ _ 3 _ _ hV.x
              have y1 : wr.cell? ⟨w.heap.size + 1 + 1 + 1, 5, none⟩ = some (.int .i64 5) := cell_of_row _ _ 5 _ _ _ hV.ord
              have y2 : wr.cell? ⟨w.heap.size + 1, 5, none⟩ = some (.int .u32 i5) := cell_of_row _ _ 5 _ _ _ hV.inp
              have y3 : wr.cell? ⟨w.heap.size + 1 + 1 + 1 + 1 + 1, 0, none⟩ = some (.int .u32 0) := cell_of_row _ _ 0 _ _ _ hV.add
              have y4 : wr.cell? ⟨w.heap.size + 1 + 1 + 1 + 1, 1, none⟩ = some (.int .i64 7) := cell_of_row _ _ 1 _ _ _ hV.turn
              have HV := Lib.hid hV; clear hV
              go_wp2
              go_quiet (fail)
              go_wp2
              go_region_held3 (fun w' => w'.cell? ⟨w.heap.size + 1 + 1 + 1, 5, none⟩ = some (.int .i64 5) ∧ w'.cell? ⟨w.heap.size + 1, 5, none⟩ = some (.int .u32 i5) ∧ w'.cell? ⟨w.heap.size + 1 + 1 + 1 + 1 + 1, 0, none⟩ = some (.int .u32 0) ∧ w'.cell? ⟨w.heap.size + 1 + 1 + 1 + 1, 1, none⟩ = some (.int .i64 7)) (go_keep) (first | (go_at_call 15; refine (rotb_any _ _ _ (by decide) (by decide)).mono ?_; rintro e w' ⟨rfl, rfl⟩))
              go_wp2
              go_roundw
              case rel =>
                (repeat apply Exists.intro)
                refine ⟨⟨6, by omega, by go_num, ?_⟩, rfl⟩
                have e : ∀ t, t = (D + fW 0 A Bq C + i5 % 4294967296) % 4294967296 → rotW t 7 = R 0 D A Bq C (i5 % 4294967296) 7 := by rintro _ rfl; rfl
                rw [e _ (by simp only [fW]; omega)]
                have hq := HQ.out
                have hV := HV.out
                clear e HQ HV x0 x1 x2 x3 xf y1 y2 y3 y4
                rw [show (0 + 6 : Nat) = 5 + 1 from rfl, mdS_succ _ _ _ _ _ _ _ _ _ _ _ _ 5 (0, i5 % 4294967296, 7) rfl]
                generalize mdS b0 b1 b2 b3 i0 i1 i2 i3 i4 i5 i6 i7 5 = T at hq ⊢
                obtain ⟨t0, t1, t2, t3⟩ := T
                simp only [unr, Prod.mk.injEq] at hq
                obtain ⟨rfl, rfl, rfl, rfl⟩ := hq
                exact hV.store _ 3 _ _ rfl
              case measure => simp [intOf]
            · as_aux_lemma =>
              obtain ⟨⟨A, Bq, C, D⟩, hq⟩ : ∃ q, q = unr 6 (mdS b0 b1 b2 b3 i0 i1 i2 i3 i4 i5 i6 i7 6) := ⟨_, rfl⟩
              rw [← hq] at hV
              have HQ := Lib.hid hq; clear hq
              have x0 : wr.cell? ⟨w.heap.size + 1 + 1, 0, none⟩ = some (.int .u32 A) := cell_of_row _ _ 0 _ _ _ hV.x
              have x1 : wr.cell? ⟨w.heap.size + 1 + 1, 1, none⟩ = some (.int .u32 Bq) := cell_of_row _ _ 1 _ _ _ hV.x
              have x2 : wr.cell? ⟨w.heap.size + 1 + 1, 2, none⟩ = some (.int .u32 C) := cell_of_row _ _ 2 _ _ _ hV.x
              have x3 : wr.cell? ⟨w.heap.size + 1 + 1, 3, none⟩ = some (.int .u32 D) := cell_of_row _ _ 3 _ _ _ hV.x
              have xf : wr.frozen? ⟨w.heap.size + 1 + 1, 2, none⟩ = false := frozen_of_row _ _ 2 _ _ hV.x
              have y1 : wr.cell? ⟨w.heap.size + 1 + 1 + 1, 6, none⟩ = some (.int .i64 6) := cell_of_row _ _ 6 _ _ _ hV.ord
              have y2 : wr.cell? ⟨w.heap.size + 1, 6, none⟩ = some (.int .u32 i6) := cell_of_row _ _ 6 _ _ _ hV.inp
              have y3 : wr.cell? ⟨w.heap.size + 1 + 1 + 1 + 1 + 1, 0, none⟩ = some (.int .u32 0) := cell_of_row _ _ 0 _ _ _ hV.add
              have y4 : wr.cell? ⟨w.heap.size + 1 + 1 + 1 + 1, 2, none⟩ = some (.int .i64 11) := cell_of_row _ _ 2 _ _ _ hV.turn
              have HV := Lib.hid hV; clear hV
              go_wp2
              go_quiet (fail)
              go_wp2
              go_region_held3 (fun w' => w'.cell? ⟨w.heap.size + 1 + 1 + 1, 6, none⟩ = some (.int .i64 6) ∧ w'.cell? ⟨w.heap.size + 1, 6, none⟩ = some (.int .u32 i6) ∧ w'.cell? ⟨w.heap.size + 1 + 1 + 1 + 1 + 1, 0, none⟩ = some (.int .u32 0) ∧ w'.cell? ⟨w.heap.size + 1 + 1 + 1 + 1, 2, none⟩ = some (.int .i64 11)) (go_keep) (first | (go_at_call 15; refine (rotb_any _ _ _ (by decide) (by decide)).mono ?_; rintro e w' ⟨rfl, rfl⟩))
              go_wp2
              go_roundw
              case rel =>
                (repeat apply Exists.intro)
                refine ⟨⟨7, by omega, by go_num, ?_⟩, rfl⟩
                have e : ∀ t, t = (C + fW 0 D A Bq + i6 % 4294967296) % 4294967296 → rotW t 11 = R 0 C D A Bq (i6 % 4294967296) 11 := by rintro _ rfl; rfl
                rw [e _ (by simp only [fW]; omega)]
                have hq := HQ.out
                have hV := HV.out
                clear e HQ HV x0 x1 x2 x3 xf y1 y2 y3 y4
                rw [show (0 + 7 : Nat) = 6 + 1 from rfl, mdS_succ _ _ _ _ _ _ _ _ _ _ _ _ 6 (0, i6 % 4294967296, 11) rfl]
                generalize mdS b0 b1 b2 b3 i0 i1 i2 i3 i4 i5 i6 i7 6 = T at hq ⊢
                obtain ⟨t0, t1, t2, t3⟩ := T
                simp only [unr, Prod.mk.injEq] at hq
                obtain ⟨rfl, rfl, rfl, rfl⟩ := hq
                exact hV.store _ 2 _ _ rfl
              case measure => simp [intOf]
            · as_aux_lemma =>
              obtain ⟨⟨A, Bq, C, D⟩, hq⟩ : ∃ q, q = unr 7 (mdS b0 b1 b2 b3 i0 i1 i2 i3 i4 i5 i6 i7 7) := ⟨_, rfl⟩
              rw [← hq] at hV
              have HQ := Lib.hid hq; clear hq
              have x0 : wr.cell? ⟨w.heap.size + 1 + 1, 0, none⟩ = some (.int .u32 A) := cell_of_row _ _ 0 _ _ _ hV.x
              have x1 : wr.cell? ⟨w.heap.size + 1 + 1, 1, none⟩ = some (.int .u32 Bq) := cell_of_row _ _ 1 _ _ _ hV.x
              have x2 : wr.cell? ⟨w.heap.size + 1 + 1, 2, none⟩ = some (.int .u32 C) := cell_of_row _ _ 2 _ _ _ hV.x
              have x3 : wr.cell? ⟨w.heap.size + 1 + 1, 3, none⟩ = some (.int .u32 D) := cell_of_row _ _ 3 _ _ _ hV.x
              have xf : wr.frozen? ⟨w.heap.size + 1 + 1, 1, none⟩ = false := frozen_of_row _ _ 1 _ _ hV.x
              have y1 : wr.cell? ⟨w.heap.size + 1 + 1 + 1, 7, none⟩ = some (.int .i64 7) := cell_of_row _ _ 7 _ _ _ hV.ord
              have y2 : wr.cell? ⟨w.heap.size + 1, 7, none⟩ = some (.int .u32 i7) := cell_of_row _ _ 7 _ _ _ hV.inp
              have y3 : wr.cell? ⟨w.heap.size + 1 + 1 + 1 + 1 + 1, 0, none⟩ = some (.int .u32 0) := cell_of_row _ _ 0 _ _ _ hV.add
              have y4 : wr.cell? ⟨w.heap.size + 1 + 1 + 1 + 1, 3, none⟩ = some (.int .i64 19) := cell_of_row _ _ 3 _ _ _ hV.turn
              have HV := Lib.hid hV; clear hV
              go_wp2
              go_quiet (fail)
              go_wp2
              go_region_held3 (fun w' => w'.cell? ⟨w.heap.size + 1 + 1 + 1, 7, none⟩ = some (.int .i64 7) ∧ w'.cell? ⟨w.heap.size + 1, 7, none⟩ = some (.int .u32 i7) ∧ w'.cell? ⟨w.heap.size + 1 + 1 + 1 + 1 + 1, 0, none⟩ = some (.int .u32 0) ∧ w'.cell? ⟨w.heap.size + 1 + 1 + 1 + 1, 3, none⟩ = some (.int .i64 19)) (go_keep) (first | (go_at_call 15; refine (rotb_any _ _ _ (by decide) (by decide)).mono ?_; rintro e w' ⟨rfl, rfl⟩))
              go_wp2
              go_roundw
              case rel =>
                (repeat apply Exists.intro)
                refine ⟨⟨8, by omega, by go_num, ?_⟩, rfl⟩
                have e : ∀ t, t = (Bq + fW 0 C D A + i7 % 4294967296) % 4294967296 → rotW t 19 = R 0 Bq C D A (i7 % 4294967296) 19 := by rintro _ rfl; rfl
                rw [e _ (by simp only [fW]; omega)]
                have hq := HQ.out
                have hV := HV.out
                clear e HQ HV x0 x1 x2 x3 xf y1 y2 y3 y4
                rw [show (0 + 8 : Nat) = 7 + 1 from rfl, mdS_succ _ _ _ _ _ _ _ _ _ _ _ _ 7 (0, i7 % 4294967296, 19) rfl]
                generalize mdS b0 b1 b2 b3 i0 i1 i2 i3 i4 i5 i6 i7 7 = T at hq ⊢
                obtain ⟨t0, t1, t2, t3⟩ := T
                simp only [unr, Prod.mk.injEq] at hq
                obtain ⟨rfl, rfl, rfl, rfl⟩ := hq
                exact hV.store _ 1 _ _ rfl
              case measure => simp [intOf]
          · have e8 : k = 8 := by omega
            subst e8
            have HV := Lib.hid hV; clear hV
            go_wp2
            go_roundw
            case rel => exact ⟨1, by omega, by go_num, HV.out⟩
            case measure => simp [intOf]
      · go_wp2
        go_loopw [30] (fun t wv => ∃ k : Nat, k ≤ 8 ∧ t = .int .i64 k ∧ MdW w wv b0 b1 b2 b3 i0 i1 i2 i3 i4 i5 i6 i7 (unr k (mdS b0 b1 b2 b3 i0 i1 i2 i3 i4 i5 i6 i7 (8 + k)))) (fun t _ => 8 - (intOf t).toNat)
        case atStart => exact ⟨0, by omega, rfl, hW⟩
        case round =>
          obtain ⟨k, hk, rfl, hV⟩ := hrel
          by_cases h8 : k < 8
          · obtain rfl | rfl | rfl | rfl | rfl | rfl | rfl | rfl : k = 0 ∨ k = 1 ∨ k = 2 ∨ k = 3 ∨ k = 4 ∨ k = 5 ∨ k = 6 ∨ k = 7 := by omega
            · as_aux_lemma =>
              obtain ⟨⟨A, Bq, C, D⟩, hq⟩ : ∃ q, q = unr 0 (mdS b0 b1 b2 b3 i0 i1 i2 i3 i4 i5 i6 i7 8) := ⟨_, rfl⟩
              rw [← hq] at hV
              have HQ := Lib.hid hq; clear hq
              have x0 : wr.cell? ⟨w.heap.size + 1 + 1, 0, none⟩ = some (.int .u32 A) := cell_of_row _ _ 0 _ _ _ hV.x
              have x1 : wr.cell? ⟨w.heap.size + 1 + 1, 1, none⟩ = some (.int .u32 Bq) := cell_of_row _ _ 1 _ _ _ hV.x
              have x2 : wr.cell? ⟨w.heap.size + 1 + 1, 2, none⟩ = some (.int .u32 C) := cell_of_row _ _ 2 _ _ _ hV.x
              have x3 : wr.cell? ⟨w.heap.size + 1 + 1, 3, none⟩ = some (.int .u32 D) := cell_of_row _ _ 3 _ _ _ hV.x
              have xf : wr.frozen? ⟨w.heap.size + 1 + 1, 0, none⟩ = false := frozen_of_row _ _ 0 _ _ hV.x
              have y1 : wr.cell? ⟨w.heap.size + 1 + 1 + 1, 8, none⟩ = some (.int .i64 1) := cell_of_row _ _ 8 _ _ _ hV.ord
              have y2 : wr.cell? ⟨w.heap.size + 1, 1, none⟩ = some (.int .u32 i1) := cell_of_row _ _ 1 _ _ _ hV.inp
              have y3 : wr.cell? ⟨w.heap.size + 1 + 1 + 1 + 1 + 1, 1, none⟩ = some (.int .u32 1518500249) := cell_of_row _ _ 1 _ _ _ hV.add
              have y4 : wr.cell? ⟨w.heap.size + 1 + 1 + 1 + 1, 4, none⟩ = some (.int .i64 3) := cell_of_row _ _ 4 _ _ _ hV.turn
              have HV := Lib.hid hV; clear hV
              go_wp2
              go_quiet (fail)
              go_wp2
              go_region_held3 (fun w' => w'.cell? ⟨w.heap.size + 1 + 1 + 1, 8, none⟩ = some (.int .i64 1) ∧ w'.cell? ⟨w.heap.size + 1, 1, none⟩ = some (.int .u32 i1) ∧ w'.cell? ⟨w.heap.size + 1 + 1 + 1 + 1 + 1, 1, none⟩ = some (.int .u32 1518500249) ∧ w'.cell? ⟨w.heap.size + 1 + 1 + 1 + 1, 4, none⟩ = some (.int .i64 3)) (go_keep) (first | (go_at_call 15; refine (rotb_any _ _ _ (by decide) (by decide)).mono ?_; rintro e w' ⟨rfl, rfl⟩))
              go_wp2
              go_roundw
              case rel =>
                (repeat apply Exists.intro)
                refine ⟨⟨1, by omega, by go_num, ?_⟩, rfl⟩
                have e : ∀ t, t = (A + fW 1 Bq C D + (i1 + 1518500249) % 4294967296) % 4294967296 → rotW t 3 = R 1 A Bq C D ((i1 + 1518500249) % 4294967296) 3 := by rintro _ rfl; rfl
                rw [e _ (by simp only [fW]; omega)]
                have hq := HQ.out
                have hV := HV.out
                clear e HQ HV x0 x1 x2 x3 xf y1 y2 y3 y4
                rw [show (8 + 1 : Nat) = 8 + 1 from rfl, mdS_succ _ _ _ _ _ _ _ _ _ _ _ _ 8 (1, (i1 + 1518500249) % 4294967296, 3) rfl]
                generalize mdS b0 b1 b2 b3 i0 i1 i2 i3 i4 i5 i6 i7 8 = T at hq ⊢
                obtain ⟨t0, t1, t2, t3⟩ := T
                simp only [unr, Prod.mk.injEq] at hq
                obtain ⟨rfl, rfl, rfl, rfl⟩ := hq
                exact hV.store _ 0 _ _ rfl
              case measure => simp [intOf]
            · as_aux_lemma =>
              obtain ⟨⟨A, Bq, C, D⟩, hq⟩ : ∃ q, q = unr 1 (mdS b0 b1 b2 b3 i0 i1 i2 i3 i4 i5 i6 i7 9) := ⟨_, rfl⟩
              rw [← hq] at hV
              have HQ := Lib.hid hq; clear hq
              have x0 : wr.cell? ⟨w.heap.size + 1 + 1, 0, none⟩ = some (.int .u32 A) := cell_of_row _ _ 0 _ _ _ hV.x
              have x1 : wr.cell? ⟨w.heap.size + 1 + 1, 1, none⟩ = some (.int .u32 Bq) := cell_of_row _ _ 1 _ _ _ hV.x
              have x2 : wr.cell? ⟨w.heap.size + 1 + 1, 2, none⟩ = some (.int .u32 C) := cell_of_row _ _ 2 _ _ _ hV.x
              have x3 : wr.cell? ⟨w.heap.size + 1 + 1, 3, none⟩ = some (.int .u32 D) := cell_of_row _ _ 3 _ _ _ hV.x
              have xf : wr.frozen? ⟨w.heap.size + 1 + 1, 3, none⟩ = false := frozen_of_row _ _ 3 _ _ hV.x
              have y1 : wr.cell? ⟨w.heap.size + 1 + 1 + 1, 9, none⟩ = some (.int .i64 3) := cell_of_row _ _ 9 _ _ _ hV.ord
              have y2 : wr.cell? ⟨w.heap.size + 1, 3, none⟩ = some (.int .u32 i3) := cell_of_row _ _ 3 _ _ _ hV.inp
              have y3 : wr.cell? ⟨w.heap.size + 1 + 1 + 1 + 1 + 1, 1, none⟩ = some (.int .u32 1518500249) := cell_of_row _ _ 1 _ _ _ hV.add
              have y4 : wr.cell? ⟨w.heap.size + 1 + 1 + 1 + 1, 5, none⟩ = some (.int .i64 5) := cell_of_row _ _ 5 _ _ _ hV.turn
              have HV := Lib.hid hV; clear hV
              go_wp2
              go_quiet (fail)
              go_wp2
              go_region_held3 (fun w' => w'.cell? ⟨w.heap.size + 1 + 1 + 1, 9, none⟩ = some (.int .i64 3) ∧ w'.cell? ⟨w.heap.size + 1, 3, none⟩ = some (.int .u32 i3) ∧ w'.cell? ⟨w.heap.size + 1 + 1 + 1 + 1 + 1, 1, none⟩ = some (.int .u32 1518500249) ∧ w'.cell? ⟨w.heap.size + 1 + 1 + 1 + 1, 5, none⟩ = some (.int .i64 5)) (go_keep) (first | (go_at_call 15; refine (rotb_any _ _ _ (by decide) (by decide)).mono ?_; rintro e w' ⟨rfl, rfl⟩))
              go_wp2
              go_roundw
              case rel =>
                (repeat apply Exists.intro)
                refine ⟨⟨2, by omega, by go_num, ?_⟩, rfl⟩
                have e : ∀ t, t = (D + fW 1 A Bq C + (i3 + 1518500249) % 4294967296) % 4294967296 → rotW t 5 = R 1 D A Bq C ((i3 + 1518500249) % 4294967296) 5 := by rintro _ rfl; rfl
                rw [e _ (by simp only [fW]; omega)]
                have hq := HQ.out
                have hV := HV.out
                clear e HQ HV x0 x1 x2 x3 xf y1 y2 y3 y4
                rw [show (8 + 2 : Nat) = 9 + 1 from rfl, mdS_succ _ _ _ _ _ _ _ _ _ _ _ _ 9 (1, (i3 + 1518500249) % 4294967296, 5) rfl]
                generalize mdS b0 b1 b2 b3 i0 i1 i2 i3 i4 i5 i6 i7 9 = T at hq ⊢
                obtain ⟨t0, t1, t2, t3⟩ := T
                simp only [unr, Prod.mk.injEq] at hq
                obtain ⟨rfl, rfl, rfl, rfl⟩ := hq
                exact hV.store _ 3 _ _ rfl
              case measure => simp [intOf]
            · as_aux_lemma =>
              obtain ⟨⟨A, Bq, C, D⟩, hq⟩ : ∃ q, q = unr 2 (mdS b0 b1 b2 b3 i0 i1 i2 i3 i4 i5 i6 i7 10) := ⟨_, rfl⟩
              rw [← hq] at hV
              have HQ := Lib.hid hq; clear hq
              have x0 : wr.cell? ⟨w.heap.size + 1 + 1, 0, none⟩ = some (.int .u32 A) := cell_of_row _ _ 0 _ _ _ hV.x
              have x1 : wr.cell? ⟨w.heap.size + 1 + 1, 1, none⟩ = some (.int .u32 Bq) := cell_of_row _ _ 1 _ _ _ hV.x
              have x2 : wr.cell? ⟨w.heap.size + 1 + 1, 2, none⟩ = some (.int .u32 C) := cell_of_row _ _ 2 _ _ _ hV.x
              have x3 : wr.cell? ⟨w.heap.size + 1 + 1, 3, none⟩ = some (.int .u32 D) := cell_of_row _ _ 3 _ _ _ hV.x
              have xf : wr.frozen? ⟨w.heap.size + 1 + 1, 2, none⟩ = false := frozen_of_row _ _ 2 _ _ hV.x
              have y1 : wr.cell? ⟨w.heap.size + 1 + 1 + 1, 10, none⟩ = some (.int .i64 5) := cell_of_row _ _ 10 _ _ _ hV.ord
              have y2 : wr.cell? ⟨w.heap.size + 1, 5, none⟩ = some (.int .u32 i5) := cell_of_row _ _ 5 _ _ _ hV.inp
              have y3 : wr.cell? ⟨w.heap.size + 1 + 1 + 1 + 1 + 1, 1, none⟩ = some (.int .u32 1518500249) := cell_of_row _ _ 1 _ _ _ hV.add
              have y4 : wr.cell? ⟨w.heap.size + 1 + 1 + 1 + 1, 6, none⟩ = some (.int .i64 9) := cell_of_row _ _ 6 _ _ _ hV.turn
              have HV := Lib.hid hV; clear hV
              go_wp2
              go_quiet (fail)
              go_wp2
              go_region_held3 (fun w' => w'.cell? ⟨w.heap.size + 1 + 1 + 1, 10, none⟩ = some (.int .i64 5) ∧ w'.cell? ⟨w.heap.size + 1, 5, none⟩ = some (.int .u32 i5) ∧ w'.cell? ⟨w.heap.size + 1 + 1 + 1 + 1 + 1, 1, none⟩ = some (.int .u32 1518500249) ∧ w'.cell? ⟨w.heap.size + 1 + 1 + 1 + 1, 6, none⟩ = some (.int .i64 9)) (go_keep) (first | (go_at_call 15; refine (rotb_any _ _ _ (by decide) (by decide)).mono ?_; rintro e w' ⟨rfl, rfl⟩))
              go_wp2
              go_roundw
              case rel =>
                (repeat apply Exists.intro)
                refine ⟨⟨3, by omega, by go_num, ?_⟩, rfl⟩
                have e : ∀ t, t = (C + fW 1 D A Bq + (i5 + 1518500249) % 4294967296) % 4294967296 → rotW t 9 = R 1 C D A Bq ((i5 + 1518500249) % 4294967296) 9 := by rintro _ rfl; rfl
                rw [e _ (by simp only [fW]; omega)]
                have hq := HQ.out
                have hV := HV.out
                clear e HQ HV x0 x1 x2 x3 xf y1 y2 y3 y4
                rw [show (8 + 3 : Nat) = 10 + 1 from rfl, mdS_succ _ _ _ _ _ _ _ _ _ _ _ _ 10 (1, (i5 + 1518500249) % 4294967296, 9) rfl]
                generalize mdS b0 b1 b2 b3 i0 i1 i2 i3 i4 i5 i6 i7 10 = T at hq ⊢
                obtain ⟨t0, t1, t2, t3⟩ := T
                simp only [unr, Prod.mk.injEq] at hq
                obtain ⟨rfl, rfl, rfl, rfl⟩ := hq
                exact hV.store _ 2 _ _ rfl
              case measure => simp [intOf]
            · as_aux_lemma =>
              obtain ⟨⟨A, Bq, C, D⟩, hq⟩ : ∃ q, q = unr 3 (mdS b0 b1 b2 b3 i0 i1 i2 i3 i4 i5 i6 i7 11) := ⟨_, rfl⟩
              rw [← hq] at hV
              have HQ := Lib.hid hq; clear hq
              have x0 : wr.cell? ⟨w.heap.size + 1 + 1, 0, none⟩ = some (.int .u32 A) := cell_of_row _ _ 0 _ _ _ hV.x
              have x1 : wr.cell? ⟨w.heap.size + 1 + 1, 1, none⟩ = some (.int .u32 Bq) := cell_of_row _ _ 1 _ _ _ hV.x
              have x2 : wr.cell? ⟨w.heap.size + 1 + 1, 2, none⟩ = some (.int .u32 C) := cell_of_row _ _ 2 _ _ _ hV.x
              have x3 : wr.cell? ⟨w.heap.size + 1 + 1, 3, none⟩ = some (.int .u32 D) := cell_of_row _ _ 3 _ _ _ hV.x
              have xf : wr.frozen? ⟨w.heap.size + 1 + 1, 1, none⟩ = false := frozen_of_row _ _ 1 _ _ hV.x
              have y1 : wr.cell? ⟨w.heap.size + 1 + 1 + 1, 11, none⟩ = some (.int .i64 7) := cell_of_row _ _ 11 _ _ _ hV.ord
              have y2 : wr.cell? ⟨w.heap.size + 1, 7, none⟩ = some (.int .u32 i7) := cell_of_row _ _ 7 _ _ _ hV.inp
              have y3 : wr.cell? ⟨w.heap.size + 1 + 1 + 1 + 1 + 1, 1, none⟩ = some (.int .u32 1518500249) := cell_of_row _ _ 1 _ _ _ hV.add
              have y4 : wr.cell? ⟨w.heap.size + 1 + 1 + 1 + 1, 7, none⟩ = some (.int .i64 13) := cell_of_row _ _ 7 _ _ _ hV.turn
              have HV := Lib.hid hV; clear hV
              go_wp2
              go_quiet (fail)
              go_wp2
              go_region_held3 (fun w' => w'.cell? ⟨w.heap.size + 1 + 1 + 1, 11, none⟩ = some (.int .i64 7) ∧ w'.cell? ⟨w.heap.size + 1, 7, none⟩ = some (.int .u32 i7) ∧ w'.cell? ⟨w.heap.size + 1 + 1 + 1 + 1 + 1, 1, none⟩ = some (.int .u32 1518500249) ∧ w'.cell? ⟨w.heap.size + 1 + 1 + 1 + 1, 7, none⟩ = some (.int .i64 13)) (go_keep) (first | (go_at_call 15; refine (rotb_any _ _ _ (by decide) (by decide)).mono ?_; rintro e w' ⟨rfl, rfl⟩))
              go_wp2
              go_roundw
              case rel =>
                (repeat apply Exists.intro)
                refine ⟨⟨4, by omega, by go_num, ?_⟩, rfl⟩
                have e : ∀ t, t = (Bq + fW 1 C D A + (i7 + 1518500249) % 4294967296) % 4294967296 → rotW t 13 = R 1 Bq C D A ((i7 + 1518500249) % 4294967296) 13 := by rintro _ rfl; rfl
                rw [e _ (by simp only [fW]; omega)]
                have hq := HQ.out
                have hV := HV.out
                clear e HQ HV x0 x1 x2 x3 xf y1 y2 y3 y4
                rw [show (8 + 4 : Nat) = 11 + 1 from rfl, mdS_succ _ _ _ _ _ _ _ _ _ _ _ _ 11 (1, (i7 + 1518500249) % 4294967296, 13) rfl]
                generalize mdS b0 b1 b2 b3 i0 i1 i2 i3 i4 i5 i6 i7 11 = T at hq ⊢
                obtain ⟨t0, t1, t2, t3⟩ := T
                simp only [unr, Prod.mk.injEq] at hq
                obtain ⟨rfl, rfl, rfl, rfl⟩ := hq
                exact hV.store _ 1 _ _ rfl
              case measure => simp [intOf]
            · as_aux_lemma =>
              obtain ⟨⟨A, Bq, C, D⟩, hq⟩ : ∃ q, q = unr 4 (mdS b0 b1 b2 b3 i0 i1 i2 i3 i4 i5 i6 i7 12) := ⟨_, rfl⟩
              rw [← hq] at hV
              have HQ := Lib.hid hq; clear hq
              have x0 : wr.cell? ⟨w.heap.size + 1 + 1, 0, none⟩ = some (.int .u32 A) := cell_of_row _ _ 0 _ _ _ hV.x
              have x1 : wr.cell? ⟨w.heap.size + 1 + 1, 1, none⟩ = some (.int .u32 Bq) := cell_of_row _ _ 1 _ _ _ hV.x
              have x2 : wr.cell? ⟨w.heap.size + 1 + 1, 2, none⟩ = some (.int .u32 C) := cell_of_row _ _ 2 _ _ _ hV.x
              have x3 : wr.cell? ⟨w.heap.size + 1 + 1, 3, none⟩ = some (.int .u32 D) := cell_of_row _ _ 3 _ _ _ hV.x
              have xf : wr.frozen? ⟨w.heap.size + 1 + 1, 0, none⟩ = false := frozen_of_row _ _ 0 _ _ hV.x
              have y1 : wr.cell? ⟨w.heap.size + 1 + 1 + 1, 12, none⟩ = some (.int .i64 0) := cell_of_row _ _ 12 _ _ _ hV.ord
              have y2 : wr.cell? ⟨w.heap.size + 1, 0, none⟩ = some (.int .u32 i0) := cell_of_row _ _ 0 _ _ _ hV.inp
              have y3 : wr.cell? ⟨w.heap.size + 1 + 1 + 1 + 1 + 1, 1, none⟩ = some (.int .u32 1518500249) := cell_of_row _ _ 1 _ _ _ hV.add
              have y4 : wr.cell? ⟨w.heap.size + 1 + 1 + 1 + 1, 4, none⟩ = some (.int .i64 3) := cell_of_row _ _ 4 _ _ _ hV.turn
              have HV := Lib.hid hV; clear hV
              go_wp2
              go_quiet (fail)
              go_wp2
              go_region_held3 (fun w' => w'.cell? ⟨w.heap.size + 1 + 1 + 1, 12, none⟩ = some (.int .i64 0) ∧ w'.cell? ⟨w.heap.size + 1, 0, none⟩ = some (.int .u32 i0) ∧ w'.cell? ⟨w.heap.size + 1 + 1 + 1 + 1 + 1, 1, none⟩ = some (.int .u32 1518500249) ∧ w'.cell? ⟨w.heap.size + 1 + 1 + 1 + 1, 4, none⟩ = some (.int .i64 3)) (go_keep) (first | (go_at_call 15; refine (rotb_any _ _ _ (by decide) (by decide)).mono ?_; rintro e w' ⟨rfl, rfl⟩))
              go_wp2
              go_roundw
              case rel =>
                (repeat apply Exists.intro)
                refine ⟨⟨5, by omega, by go_num, ?_⟩, rfl⟩
                have e : ∀ t, t = (A + fW 1 Bq C D + (i0 + 1518500249) % 4294967296) % 4294967296 → rotW t 3 = R 1 A Bq C D ((i0 + 1518500249) % 4294967296) 3 := by rintro _ rfl; rfl
                rw [e _ (by simp only [fW]; omega)]
                have hq := HQ.out
                have hV := HV.out
                clear e HQ HV x0 x1 x2 x3 xf y1 y2 y3 y4
                rw [show (8 + 5 : Nat) = 12 + 1 from rfl, mdS_succ _ _ _ _ _ _ _ _ _ _ _ _ 12 (1, (i0 + 1518500249) % 4294967296, 3) rfl]
                generalize mdS b0 b1 b2 b3 i0 i1 i2 i3 i4 i5 i6 i7 12 = T at hq ⊢
                obtain ⟨t0, t1, t2, t3⟩ := T
                simp only [unr, Prod.mk.injEq] at hq
                obtain ⟨rfl, rfl, rfl, rfl⟩ := hq
                exact hV.store _ 0 _ _ rfl
              case measure => simp [intOf]
            · as_aux_lemma =>
              obtain ⟨⟨A, Bq, C, D⟩, hq⟩ : ∃ q, q = unr 5 (mdS b0 b1 b2 b3 i0 i1 i2 i3 i4 i5 i6 i7 13) := ⟨_, rfl⟩
              rw [← hq] at hV
              have HQ := Lib.hid hq; clear hq
              have x0 : wr.cell? ⟨w.heap.size + 1 + 1, 0, none⟩ = some (.int .u32 A) := cell_of_row _ _ 0 _ _ _ hV.x
              have x1 : wr.cell? ⟨w.heap.size + 1 + 1, 1, none⟩ = some (.int .u32 Bq) := cell_of_row _ _ 1 _ _ _ hV.x
              have x2 : wr.cell? ⟨w.heap.size + 1 + 1, 2, none⟩ = some (.int .u32 C) := cell_of_row _ _ 2 _ _ _ hV.x
              have x3 : wr.cell? ⟨w.heap.size + 1 + 1, 3, none⟩ = some (.int .u32 D) := cell_of_row _ _ 3 _ _ _ hV.x
              have xf : wr.frozen? ⟨w.heap.size + 1 + 1, 3, none⟩ = false := frozen_of_row _ _ 3 _ _ hV.x
              have y1 : wr.cell? ⟨w.heap.size + 1 + 1 + 1, 13, none⟩ = some (.int .i64 2) := cell_of_row _ _ 13 _ _ _ hV.ord
              have y2 : wr.cell? ⟨w.heap.size + 1, 2, none⟩ = some (.int .u32 i2) := cell_of_row _ _ 2 _ _ _ hV.inp
              have y3 : wr.cell? ⟨w.heap.size + 1 + 1 + 1 + 1 + 1, 1, none⟩ = some (.int .u32 1518500249) := cell_of_row _ _ 1 _ _ _ hV.add
              have y4 : wr.cell? ⟨w.heap.size + 1 + 1 + 1 + 1, 5, none⟩ = some (.int .i64 5) := cell_of_row _ _ 5 _ _ _ hV.turn
              have HV := Lib.hid hV; clear hV
              go_wp2
              go_quiet (fail)
              go_wp2
              go_region_held3 (fun w' => w'.cell? ⟨w.heap.size + 1 + 1 + 1, 13, none⟩ = some (.int .i64 2) ∧ w'.cell? ⟨w.heap.size + 1, 2, none⟩ = some (.int .u32 i2) ∧ w'.cell? ⟨w.heap.size + 1 + 1 + 1 + 1 + 1, 1, none⟩ = some (.int .u32 1518500249) ∧ w'.cell? ⟨w.heap.size + 1 + 1 + 1 + 1, 5, none⟩ = some (.int .i64 5)) (go_keep) (first | (go_at_call 15; refine (rotb_any _ _ _ (by decide) (by decide)).mono ?_; rintro e w' ⟨rfl, rfl⟩))
              go_wp2
              go_roundw
              case rel =>
                (repeat apply Exists.intro)
                refine ⟨⟨6, by omega, by go_num, ?_⟩, rfl⟩
                have e : ∀ t, t = (D + fW 1 A Bq C + (i2 + 1518500249) % 4294967296) % 4294967296 → rotW t 5 = R 1 D A Bq C ((i2 + 1518500249) % 4294967296) 5 := by rintro _ rfl; rfl
                rw [e _ (by simp only [fW]; omega)]
                have hq := HQ.out
                have hV := HV.out
                clear e HQ HV x0 x1 x2 x3 xf y1 y2 y3 y4
                rw [show (8 + 6 : Nat) = 13 + 1 from rfl, mdS_succ _ _ _ _ _ _ _ _ _ _ _ _ 13 (1, (i2 + 1518500249) % 4294967296, 5) rfl]
                generalize mdS b0 b1 b2 b3 i0 i1 i2 i3 i4 i5 i6 i7 13 = T at hq ⊢
                obtain ⟨t0, t1, t2, t3⟩ := T
                simp only [unr, Prod.mk.injEq] at hq
                obtain ⟨rfl, rfl, rfl, rfl⟩ := hq
                exact hV.store _ 3 _ _ rfl
              case measure => simp [intOf]
            · as_aux_lemma =>
              obtain ⟨⟨A, Bq, C, D⟩, hq⟩ : ∃ q, q = unr 6 (mdS b0 b1 b2 b3 i0 i1 i2 i3 i4 i5 i6 i7 14) := ⟨_, rfl⟩
              rw [← hq] at hV
              have HQ := Lib.hid hq; clear hq
              have x0 : wr.cell? ⟨w.heap.size + 1 + 1, 0, none⟩ = some (.int .u32 A) := cell_of_row _ _ 0 _ _ _ hV.x
              have x1 : wr.cell? ⟨w.heap.size + 1 + 1, 1, none⟩ = some (.int .u32 Bq) := cell_of_row _ _ 1 _ _ _ hV.x
              have x2 : wr.cell? ⟨w.heap.size + 1 + 1, 2, none⟩ = some (.int .u32 C) := cell_of_row _ _ 2 _ _ _ hV.x
              have x3 : wr.cell? ⟨w.heap.size + 1 + 1, 3, none⟩ = some (.int .u32 D) := cell_of_row _ _ 3 _ _ _ hV.x
              have xf : wr.frozen? ⟨w.heap.size + 1 + 1, 2, none⟩ = false := frozen_of_row _ _ 2 _ _ hV.x
              have y1 : wr.cell? ⟨w.heap.size + 1 + 1 + 1, 14, none⟩ = some (.int .i64 4) := cell_of_row _ _ 14 _ _ _ hV.ord
              have y2 : wr.cell? ⟨w.heap.size + 1, 4, none⟩ = some (.int .u32 i4) := cell_of_row _ _ 4 _ _ _ hV.inp
              have y3 : wr.cell? ⟨w.heap.size + 1 + 1 + 1 + 1 + 1, 1, none⟩ = some (.int .u32 1518500249) := cell_of_row _ _ 1 _ _ _ hV.add
              have y4 : wr.cell? ⟨w.heap.size + 1 + 1 + 1 + 1, 6, none⟩ = some (.int .i64 9) := cell_of_row _ _ 6 _ _ _ hV.turn
              have HV := Lib.hid hV; clear hV
              go_wp2
              go_quiet (fail)
              go_wp2
              go_region_held3 (fun w' => w'.cell? ⟨w.heap.size + 1 + 1 + 1, 14, none⟩ = some (.int .i64 4) ∧ w'.cell? ⟨w.heap.size + 1, 4, none⟩ = some (.int .u32 i4) ∧ w'.cell? ⟨w.heap.size + 1 + 1 + 1 + 1 + 1, 1, none⟩ = some (.int .u32 1518500249) ∧ w'.cell? ⟨w.heap.size + 1 + 1 + 1 + 1, 6, none⟩ = some (.int .i64 9)) (go_keep) (first | (go_at_call 15; refine (rotb_any _ _ _ (by decide) (by decide)).mono ?_; rintro e w' ⟨rfl, rfl⟩))
              go_wp2
              go_roundw
              case rel =>
                (repeat apply Exists.intro)
                refine ⟨⟨7, by omega, by go_num, ?_⟩, rfl⟩
                have e : ∀ t, t = (C + fW 1 D A Bq + (i4 + 1518500249) % 4294967296) % 4294967296 → rotW t 9 = R 1 C D A Bq ((i4 + 1518500249) % 4294967296) 9 := by rintro _ rfl; rfl
                rw [e _ (by simp only [fW]; omega)]
                have hq := HQ.out
                have hV := HV.out
                clear e HQ HV x0 x1 x2 x3 xf y1 y2 y3 y4
                rw [show (8 + 7 : Nat) = 14 + 1 from rfl, mdS_succ _ _ _ _ _ _ _ _ _ _ _ _ 14 (1, (i4 + 1518500249) % 4294967296, 9) rfl]
                generalize mdS b0 b1 b2 b3 i0 i1 i2 i3 i4 i5 i6 i7 14 = T at hq ⊢
                obtain ⟨t0, t1, t2, t3⟩ := T
                simp only [unr, Prod.mk.injEq] at hq
                obtain ⟨rfl, rfl, rfl, rfl⟩ := hq
                exact hV.store _ 2 _ _ rfl
              case measure => simp [intOf]
            · as_aux_lemma =>
              obtain ⟨⟨A, Bq, C, D⟩, hq⟩ : ∃ q, q = unr 7 (mdS b0 b1 b2 b3 i0 i1 i2 i3 i4 i5 i6 i7 15) := ⟨_, rfl⟩
              rw [← hq] at hV
              have HQ := Lib.hid hq; clear hq
              have x0 : wr.cell? ⟨w.heap.size + 1 + 1, 0, none⟩ = some (.int .u32 A) := cell_of_row _ _ 0 _ _ _ hV.x
              have x1 : wr.cell? ⟨w.heap.size + 1 + 1, 1, none⟩ = some (.int .u32 Bq) := cell_of_row _ _ 1 _ _ _ hV.x
              have x2 : wr.cell? ⟨w.heap.size + 1 + 1, 2, none⟩ = some (.int .u32 C) := cell_of_row _ _ 2 _ _ _ hV.x
              have x3 : wr.cell? ⟨w.heap.size + 1 + 1, 3, none⟩ = some (.int .u32 D) := cell_of_row _ _ 3 _ _ _ hV.x
              have xf : wr.frozen? ⟨w.heap.size + 1 + 1, 1, none⟩ = false := frozen_of_row _ _ 1 _ _ hV.x
              have y1 : wr.cell? ⟨w.heap.size + 1 + 1 + 1, 15, none⟩ = some (.int .i64 6) := cell_of_row _ _ 15 _ _ _ hV.ord
              have y2 : wr.cell? ⟨w.heap.size + 1, 6, none⟩ = some (.int .u32 i6) := cell_of_row _ _ 6 _ _ _ hV.inp
              have y3 : wr.cell? ⟨w.heap.size + 1 + 1 + 1 + 1 + 1, 1, none⟩ = some (.int .u32 1518500249) := cell_of_row _ _ 1 _ _ _ hV.add
              have y4 : wr.cell? ⟨w.heap.size + 1 + 1 + 1 + 1, 7, none⟩ = some (.int .i64 13) := cell_of_row _ _ 7 _ _ _ hV.turn
              have HV := Lib.hid hV; clear hV
              go_wp2
              go_quiet (fail)
              go_wp2
              go_region_held3 (fun w' => w'.cell? ⟨w.heap.size + 1 + 1 + 1, 15, none⟩ = some (.int .i64 6) ∧ w'.cell? ⟨w.heap.size + 1, 6, none⟩ = some (.int .u32 i6) ∧ w'.cell? ⟨w.heap.size + 1 + 1 + 1 + 1 + 1, 1, none⟩ = some (.int .u32 1518500249) ∧ w'.cell? ⟨w.heap.size + 1 + 1 + 1 + 1, 7, none⟩ = some (.int .i64 13)) (go_keep) (first | (go_at_call 15; refine (rotb_any _ _ _ (by decide) (by decide)).mono ?_; rintro e w' ⟨rfl, rfl⟩))
              go_wp2
              go_roundw
              case rel =>
                (repeat apply Exists.intro)
                refine ⟨⟨8, by omega, by go_num, ?_⟩, rfl⟩
                have e : ∀ t, t = (Bq + fW 1 C D A + (i6 + 1518500249) % 4294967296) % 4294967296 → rotW t 13 = R 1 Bq C D A ((i6 + 1518500249) % 4294967296) 13 := by rintro _ rfl; rfl
                rw [e _ (by simp only [fW]; omega)]
                have hq := HQ.out
                have hV := HV.out
                clear e HQ HV x0 x1 x2 x3 xf y1 y2 y3 y4
                rw [show (8 + 8 : Nat) = 15 + 1 from rfl, mdS_succ _ _ _ _ _ _ _ _ _ _ _ _ 15 (1, (i6 + 1518500249) % 4294967296, 13) rfl]
                generalize mdS b0 b1 b2 b3 i0 i1 i2 i3 i4 i5 i6 i7 15 = T at hq ⊢
                obtain ⟨t0, t1, t2, t3⟩ := T
                simp only [unr, Prod.mk.injEq] at hq
                obtain ⟨rfl, rfl, rfl, rfl⟩ := hq
                exact hV.store _ 1 _ _ rfl
              case measure => simp [intOf]
          · have e8 : k = 8 := by omega
            subst e8
            have HV := Lib.hid hV; clear hV
            go_wp2
            go_roundw
            case rel => exact ⟨2, by omega, by go_num, HV.out⟩
            case measure => simp [intOf]
      · go_wp2
        go_loopw [30] (fun t wv => ∃ k : Nat, k ≤ 8 ∧ t = .int .i64 k ∧ MdW w wv b0 b1 b2 b3 i0 i1 i2 i3 i4 i5 i6 i7 (unr k (mdS b0 b1 b2 b3 i0 i1 i2 i3 i4 i5 i6 i7 (16 + k)))) (fun t _ => 8 - (intOf t).toNat)
        case atStart => exact ⟨0, by omega, rfl, hW⟩
        case round =>
          obtain ⟨k, hk, rfl, hV⟩ := hrel
          by_cases h8 : k < 8
          · obtain rfl | rfl | rfl | rfl | rfl | rfl | rfl | rfl : k = 0 ∨ k = 1 ∨ k = 2 ∨ k = 3 ∨ k = 4 ∨ k = 5 ∨ k = 6 ∨ k = 7 := by omega
            · as_aux_lemma =>
              obtain ⟨⟨A, Bq, C, D⟩, hq⟩ : ∃ q, q = unr 0 (mdS b0 b1 b2 b3 i0 i1 i2 i3 i4 i5 i6 i7 16) := ⟨_, rfl⟩
              rw [← hq] at hV
              have HQ := Lib.hid hq; clear hq
              have x0 : wr.cell? ⟨w.heap.size + 1 + 1, 0, none⟩ = some (.int .u32 A) := cell_of_row _ _ 0 _ _ _ hV.x
              have x1 : wr.cell? ⟨w.heap.size + 1 + 1, 1, none⟩ = some (.int .u32 Bq) := cell_of_row _ _ 1 _ _ _ hV.x
              have x2 : wr.cell? ⟨w.heap.size + 1 + 1, 2, none⟩ = some (.int .u32 C) := cell_of_row _ _ 2 _ _ _ hV.x
              have x3 : wr.cell? ⟨w.heap.size + 1 + 1, 3, none⟩ = some (.int .u32 D) := cell_of_row _ _ 3 _ _ _ hV.x
              have xf : wr.frozen? ⟨w.heap.size + 1 + 1, 0, none⟩ = false := frozen_of_row _ _ 0 _ _ hV.x
              have y1 : wr.cell? ⟨w.heap.size + 1 + 1 + 1, 16, none⟩ = some (.int .i64 3) := cell_of_row _ _ 16 _ _ _ hV.ord
              have y2 : wr.cell? ⟨w.heap.size + 1, 3, none⟩ = some (.int .u32 i3) := cell_of_row _ _ 3 _ _ _ hV.inp
              have y3 : wr.cell? ⟨w.heap.size + 1 + 1 + 1 + 1 + 1, 2, none⟩ = some (.int .u32 1859775393) := cell_of_row _ _ 2 _ _ _ hV.add
              have y4 : wr.cell? ⟨w.heap.size + 1 + 1 + 1 + 1, 8, none⟩ = some (.int .i64 3) := cell_of_row _ _ 8 _ _ _ hV.turn
              have HV := Lib.hid hV; clear hV
              go_wp2
              go_quiet (fail)
              go_wp2
              go_region_held3 (fun w' => w'.cell? ⟨w.heap.size + 1 + 1 + 1, 16, none⟩ = some (.int .i64 3) ∧ w'.cell? ⟨w.heap.size + 1, 3, none⟩ = some (.int .u32 i3) ∧ w'.cell? ⟨w.heap.size + 1 + 1 + 1 + 1 + 1, 2, none⟩ = some (.int .u32 1859775393) ∧ w'.cell? ⟨w.heap.size + 1 + 1 + 1 + 1, 8, none⟩ = some (.int .i64 3)) (go_keep) (first | (go_at_call 15; refine (rotb_any _ _ _ (by decide) (by decide)).mono ?_; rintro e w' ⟨rfl, rfl⟩))
              go_wp2
              go_roundw
              case rel =>
                (repeat apply Exists.intro)
                refine ⟨⟨1, by omega, by go_num, ?_⟩, rfl⟩
                have e : ∀ t, t = (A + fW 2 Bq C D + (i3 + 1859775393) % 4294967296) % 4294967296 → rotW t 3 = R 2 A Bq C D ((i3 + 1859775393) % 4294967296) 3 := by rintro _ rfl; rfl
                rw [e _ (by simp only [fW]; omega)]
                have hq := HQ.out
                have hV := HV.out
                clear e HQ HV x0 x1 x2 x3 xf y1 y2 y3 y4
                rw [show (16 + 1 : Nat) = 16 + 1 from rfl, mdS_succ _ _ _ _ _ _ _ _ _ _ _ _ 16 (2, (i3 + 1859775393) % 4294967296, 3) rfl]
                generalize mdS b0 b1 b2 b3 i0 i1 i2 i3 i4 i5 i6 i7 16 = T at hq ⊢
                obtain ⟨t0, t1, t2, t3⟩ := T
                simp only [unr, Prod.mk.injEq] at hq
                obtain ⟨rfl, rfl, rfl, rfl⟩ := hq
                exact hV.store _ 0 _ _ rfl
              case measure => simp [intOf]
            · as_aux_lemma =>
              obtain ⟨⟨A, Bq, C, D⟩, hq⟩ : ∃ q, q = unr 1 (mdS b0 b1 b2 b3 i0 i1 i2 i3 i4 i5 i6 i7 17) := ⟨_, rfl⟩
              rw [← hq] at hV
              have HQ := Lib.hid hq; clear hq
              have x0 : wr.cell? ⟨w.heap.size + 1 + 1, 0, none⟩ = some (.int .u32 A) := cell_of_row _ _ 0 _ _ _ hV.x
              have x1 : wr.cell? ⟨w.heap.size + 1 + 1, 1, none⟩ = some (.int .u32 Bq) := cell_of_row _ _ 1 _ _ _ hV.x
              have x2 : wr.cell? ⟨w.heap.size + 1 + 1, 2, none⟩ = some (.int .u32 C) := cell_of_row _ _ 2 _ _ _ hV.x
              have x3 : wr.cell? ⟨w.heap.size + 1 + 1, 3, none⟩ = some (.int .u32 D) := cell_of_row _ _ 3 _ _ _ hV.x
              have xf : wr.frozen? ⟨w.heap.size + 1 + 1, 3, none⟩ = false := frozen_of_row _ _ 3 _ _ hV.x
              have y1 : wr.cell? ⟨w.heap.size + 1 + 1 + 1, 17, none⟩ = some (.int .i64 7) := cell_of_row _ _ 17 _ _ _ hV.ord
              have y2 : wr.cell? ⟨w.heap.size + 1, 7, none⟩ = some (.int .u32 i7) := cell_of_row _ _ 7 _ _ _ hV.inp
              have y3 : wr.cell? ⟨w.heap.size + 1 + 1 + 1 + 1 + 1, 2, none⟩ = some (.int .u32 1859775393) := cell_of_row _ _ 2 _ _ _ hV.add
              have y4 : wr.cell? ⟨w.heap.size + 1 + 1 + 1 + 1, 9, none⟩ = some (.int .i64 9) := cell_of_row _ _ 9 _ _ _ hV.turn
              have HV := Lib.hid hV; clear hV
              go_wp2
              go_quiet (fail)
              go_wp2
              go_region_held3 (fun w' => w'.cell? ⟨w.heap.size + 1 + 1 + 1, 17, none⟩ = some (.int .i64 7) ∧ w'.cell? ⟨w.heap.size + 1, 7, none⟩ = some (.int .u32 i7) ∧ w'.cell? ⟨w.heap.size + 1 + 1 + 1 + 1 + 1, 2, none⟩ = some (.int .u32 1859775393) ∧ w'.cell? ⟨w.heap.size + 1 + 1 + 1 + 1, 9, none⟩ = some (.int .i64 9)) (go_keep) (first | (go_at_call 15; refine (rotb_any _ _ _ (by decide) (by decide)).mono ?_; rintro e w' ⟨rfl, rfl⟩))
              go_wp2
              go_roundw
              case rel =>
                (repeat apply Exists.intro)
                refine ⟨⟨2, by omega, by go_num, ?_⟩, rfl⟩
                have e : ∀ t, t = (D + fW 2 A Bq C + (i7 + 1859775393) % 4294967296) % 4294967296 → rotW t 9 = R 2 D A Bq C ((i7 + 1859775393) % 4294967296) 9 := by rintro _ rfl; rfl
                rw [e _ (by simp only [fW]; omega)]
                have hq := HQ.out
                have hV := HV.out
                clear e HQ HV x0 x1 x2 x3 xf y1 y2 y3 y4
                rw [show (16 + 2 : Nat) = 17 + 1 from rfl, mdS_succ _ _ _ _ _ _ _ _ _ _ _ _ 17 (2, (i7 + 1859775393) % 4294967296, 9) rfl]
                generalize mdS b0 b1 b2 b3 i0 i1 i2 i3 i4 i5 i6 i7 17 = T at hq ⊢
                obtain ⟨t0, t1, t2, t3⟩ := T
                simp only [unr, Prod.mk.injEq] at hq
                obtain ⟨rfl, rfl, rfl, rfl⟩ := hq
                exact hV.store _ 3 _ _ rfl
              case measure => simp [intOf]
            · as_aux_lemma =>
              obtain ⟨⟨A, Bq, C, D⟩, hq⟩ : ∃ q, q = unr 2 (mdS b0 b1 b2 b3 i0 i1 i2 i3 i4 i5 i6 i7 18) := ⟨_, rfl⟩
              rw [← hq] at hV
              have HQ := Lib.hid hq; clear hq
              have x0 : wr.cell? ⟨w.heap.size + 1 + 1, 0, none⟩ = some (.int .u32 A) := cell_of_row _ _ 0 _ _ _ hV.x
              have x1 : wr.cell? ⟨w.heap.size + 1 + 1, 1, none⟩ = some (.int .u32 Bq) := cell_of_row _ _ 1 _ _ _ hV.x
              have x2 : wr.cell? ⟨w.heap.size + 1 + 1, 2, none⟩ = some (.int .u32 C) := cell_of_row _ _ 2 _ _ _ hV.x
              have x3 : wr.cell? ⟨w.heap.size + 1 + 1, 3, none⟩ = some (.int .u32 D) := cell_of_row _ _ 3 _ _ _ hV.x
              have xf : wr.frozen? ⟨w.heap.size + 1 + 1, 2, none⟩ = false := frozen_of_row _ _ 2 _ _ hV.x
              have y1 : wr.cell? ⟨w.heap.size + 1 + 1 + 1, 18, none⟩ = some (.int .i64 2) := cell_of_row _ _ 18 _ _ _ hV.ord
              have y2 : wr.cell? ⟨w.heap.size + 1, 2, none⟩ = some (.int .u32 i2) := cell_of_row _ _ 2 _ _ _ hV.inp
              have y3 : wr.cell? ⟨w.heap.size + 1 + 1 + 1 + 1 + 1, 2, none⟩ = some (.int .u32 1859775393) := cell_of_row _ _ 2 _ _ _ hV.add
              have y4 : wr.cell? ⟨w.heap.size + 1 + 1 + 1 + 1, 10, none⟩ = some (.int .i64 11) := cell_of_row _ _ 10 _ _ _ hV.turn
              have HV := Lib.hid hV; clear hV
              go_wp2
              go_quiet (fail)
              go_wp2
              go_region_held3 (fun w' => w'.cell? ⟨w.heap.size + 1 + 1 + 1, 18, none⟩ = some (.int .i64 2) ∧ w'.cell? ⟨w.heap.size + 1, 2, none⟩ = some (.int .u32 i2) ∧ w'.cell? ⟨w.heap.size + 1 + 1 + 1 + 1 + 1, 2, none⟩ = some (.int .u32 1859775393) ∧ w'.cell? ⟨w.heap.size + 1 + 1 + 1 + 1, 10, none⟩ = some (.int .i64 11)) (go_keep) (first | (go_at_call 15; refine (rotb_any _ _ _ (by decide) (by decide)).mono ?_; rintro e w' ⟨rfl, rfl⟩))
              go_wp2
              go_roundw
              case rel =>
                (repeat apply Exists.intro)
                refine ⟨⟨3, by omega, by go_num, ?_⟩, rfl⟩
                have e : ∀ t, t = (C + fW 2 D A Bq + (i2 + 1859775393) % 4294967296) % 4294967296 → rotW t 11 = R 2 C D A Bq ((i2 + 1859775393) % 4294967296) 11 := by rintro _ rfl; rfl
                rw [e _ (by simp only [fW]; omega)]
                have hq := HQ.out
                have hV := HV.out
                clear e HQ HV x0 x1 x2 x3 xf y1 y2 y3 y4
                rw [show (16 + 3 : Nat) = 18 + 1 from rfl, mdS_succ _ _ _ _ _ _ _ _ _ _ _ _ 18 (2, (i2 + 1859775393) % 4294967296, 11) rfl]
                generalize mdS b0 b1 b2 b3 i0 i1 i2 i3 i4 i5 i6 i7 18 = T at hq ⊢
                obtain ⟨t0, t1, t2, t3⟩ := T
                simp only [unr, Prod.mk.injEq] at hq
                obtain ⟨rfl, rfl, rfl, rfl⟩ := hq
                exact hV.store _ 2 _ _ rfl
              case measure => simp [intOf]
            · as_aux_lemma =>
              obtain ⟨⟨A, Bq, C, D⟩, hq⟩ : ∃ q, q = unr 3 (mdS b0 b1 b2 b3 i0 i1 i2 i3 i4 i5 i6 i7 19) := ⟨_, rfl⟩
              rw [← hq] at hV
              have HQ := Lib.hid hq; clear hq
              have x0 : wr.cell? ⟨w.heap.size + 1 + 1, 0, none⟩ = some (.int .u32 A) := cell_of_row _ _ 0 _ _ _ hV.x
              have x1 : wr.cell? ⟨w.heap.size + 1 + 1, 1, none⟩ = some (.int .u32 Bq) := cell_of_row _ _ 1 _ _ _ hV.x
              have x2 : wr.cell? ⟨w.heap.size + 1 + 1, 2, none⟩ = some (.int .u32 C) := cell_of_row _ _ 2 _ _ _ hV.x
              have x3 : wr.cell? ⟨w.heap.size + 1 + 1, 3, none⟩ = some (.int .u32 D) := cell_of_row _ _ 3 _ _ _ hV.x
              have xf : wr.frozen? ⟨w.heap.size + 1 + 1, 1, none⟩ = false := frozen_of_row _ _ 1 _ _ hV.x
              have y1 : wr.cell? ⟨w.heap.size + 1 + 1 + 1, 19, none⟩ = some (.int .i64 6) := cell_of_row _ _ 19 _ _ _ hV.ord
              have y2 : wr.cell? ⟨w.heap.size + 1, 6, none⟩ = some (.int .u32 i6) := cell_of_row _ _ 6 _ _ _ hV.inp
              have y3 : wr.cell? ⟨w.heap.size + 1 + 1 + 1 + 1 + 1, 2, none⟩ = some (.int .u32 1859775393) := cell_of_row _ _ 2 _ _ _ hV.add
              have y4 : wr.cell? ⟨w.heap.size + 1 + 1 + 1 + 1, 11, none⟩ = some (.int .i64 15) := cell_of_row _ _ 11 _ _ _ hV.turn
              have HV := Lib.hid hV; clear hV
              go_wp2
              go_quiet (fail)
              go_wp2
              go_region_held3 (fun w' => w'.cell? ⟨w.heap.size + 1 + 1 + 1, 19, none⟩ = some (.int .i64 6) ∧ w'.cell? ⟨w.heap.size + 1, 6, none⟩ = some (.int .u32 i6) ∧ w'.cell? ⟨w.heap.size + 1 + 1 + 1 + 1 + 1, 2, none⟩ = some (.int .u32 1859775393) ∧ w'.cell? ⟨w.heap.size + 1 + 1 + 1 + 1, 11, none⟩ = some (.int .i64 15)) (go_keep) (first | (go_at_call 15; refine (rotb_any _ _ _ (by decide) (by decide)).mono ?_; rintro e w' ⟨rfl, rfl⟩))
              go_wp2
              go_roundw
              case rel =>
                (repeat apply Exists.intro)
                refine ⟨⟨4, by omega, by go_num, ?_⟩, rfl⟩
                have e : ∀ t, t = (Bq + fW 2 C D A + (i6 + 1859775393) % 4294967296) % 4294967296 → rotW t 15 = R 2 Bq C D A ((i6 + 1859775393) % 4294967296) 15 := by rintro _ rfl; rfl
                rw [e _ (by simp only [fW]; omega)]
                have hq := HQ.out
                have hV := HV.out
                clear e HQ HV x0 x1 x2 x3 xf y1 y2 y3 y4
                rw [show (16 + 4 : Nat) = 19 + 1 from rfl, mdS_succ _ _ _ _ _ _ _ _ _ _ _ _ 19 (2, (i6 + 1859775393) % 4294967296, 15) rfl]
                generalize mdS b0 b1 b2 b3 i0 i1 i2 i3 i4 i5 i6 i7 19 = T at hq ⊢
                obtain ⟨t0, t1, t2, t3⟩ := T
                simp only [unr, Prod.mk.injEq] at hq
                obtain ⟨rfl, rfl, rfl, rfl⟩ := hq
                exact hV.store _ 1 _ _ rfl
              case measure => simp [intOf]
            · as_aux_lemma =>
              obtain ⟨⟨A, Bq, C, D⟩, hq⟩ : ∃ q, q = unr 4 (mdS b0 b1 b2 b3 i0 i1 i2 i3 i4 i5 i6 i7 20) := ⟨_, rfl⟩
              rw [← hq] at hV
              have HQ := Lib.hid hq; clear hq
              have x0 : wr.cell? ⟨w.heap.size + 1 + 1, 0, none⟩ = some (.int .u32 A) := cell_of_row _ _ 0 _ _ _ hV.x
              have x1 : wr.cell? ⟨w.heap.size + 1 + 1, 1, none⟩ = some (.int .u32 Bq) := cell_of_row _ _ 1 _ _ _ hV.x
              have x2 : wr.cell? ⟨w.heap.size + 1 + 1, 2, none⟩ = some (.int .u32 C) := cell_of_row _ _ 2 _ _ _ hV.x
              have x3 : wr.cell? ⟨w.heap.size + 1 + 1, 3, none⟩ = some (.int .u32 D) := cell_of_row _ _ 3 _ _ _ hV.x
              have xf : wr.frozen? ⟨w.heap.size + 1 + 1, 0, none⟩ = false := frozen_of_row _ _ 0 _ _ hV.x
              have y1 : wr.cell? ⟨w.heap.size + 1 + 1 + 1, 20, none⟩ = some (.int .i64 1) := cell_of_row _ _ 20 _ _ _ hV.ord
              have y2 : wr.cell? ⟨w.heap.size + 1, 1, none⟩ = some (.int .u32 i1) := cell_of_row _ _ 1 _ _ _ hV.inp
              have y3 : wr.cell? ⟨w.heap.size + 1 + 1 + 1 + 1 + 1, 2, none⟩ = some (.int .u32 1859775393) := cell_of_row _ _ 2 _ _ _ hV.add
              have y4 : wr.cell? ⟨w.heap.size + 1 + 1 + 1 + 1, 8, none⟩ = some (.int .i64 3) := cell_of_row _ _ 8 _ _ _ hV.turn
              have HV := Lib.hid hV; clear hV
              go_wp2
              go_quiet (fail)
              go_wp2
              go_region_held3 (fun w' => w'.cell? ⟨w.heap.size + 1 + 1 + 1, 20, none⟩ = some (.int .i64 1) ∧ w'.cell? ⟨w.heap.size + 1, 1, none⟩ = some (.int .u32 i1) ∧ w'.cell? ⟨w.heap.size + 1 + 1 + 1 + 1 + 1, 2, none⟩ = some (.int .u32 1859775393) ∧ w'.cell? ⟨w.heap.size + 1 + 1 + 1 + 1, 8, none⟩ = some (.int .i64 3)) (go_keep) (first | (go_at_call 15; refine (rotb_any _ _ _ (by decide) (by decide)).mono ?_; rintro e w' ⟨rfl, rfl⟩))
              go_wp2
              go_roundw
              case rel =>
                (repeat apply Exists.intro)
                refine ⟨⟨5, by omega, by go_num, ?_⟩, rfl⟩
                have e : ∀ t, t = (A + fW 2 Bq C D + (i1 + 1859775393) % 4294967296) % 4294967296 → rotW t 3 = R 2 A Bq C D ((i1 + 1859775393) % 4294967296) 3 := by rintro _ rfl; rfl
                rw [e _ (by simp only [fW]; omega)]
                have hq := HQ.out
                have hV := HV.out
                clear e HQ HV x0 x1 x2 x3 xf y1 y2 y3 y4
                rw [show (16 + 5 : Nat) = 20 + 1 from rfl, mdS_succ _ _ _ _ _ _ _ _ _ _ _ _ 20 (2, (i1 + 1859775393) % 4294967296, 3) rfl]
                generalize mdS b0 b1 b2 b3 i0 i1 i2 i3 i4 i5 i6 i7 20 = T at hq ⊢
                obtain ⟨t0, t1, t2, t3⟩ := T
                simp only [unr, Prod.mk.injEq] at hq
                obtain ⟨rfl, rfl, rfl, rfl⟩ := hq
                exact hV.store _ 0 _ _ rfl
              case measure => simp [intOf]
            · as_aux_lemma =>
              obtain ⟨⟨A, Bq, C, D⟩, hq⟩ : ∃ q, q = unr 5 (mdS b0 b1 b2 b3 i0 i1 i2 i3 i4 i5 i6 i7 21) := ⟨_, rfl⟩
              rw [← hq] at hV
              have HQ := Lib.hid hq; clear hq
              have x0 : wr.cell? ⟨w.heap.size + 1 + 1, 0, none⟩ = some (.int .u32 A) := cell_of_row _ _ 0 _ _ _ hV.x
              have x1 : wr.cell? ⟨w.heap.size + 1 + 1, 1, none⟩ = some (.int .u32 Bq) := cell_of_row _ _ 1 _ _ _ hV.x
              have x2 : wr.cell? ⟨w.heap.size + 1 + 1, 2, none⟩ = some (.int .u32 C) := cell_of_row _ _ 2 _ _ _ hV.x
              have x3 : wr.cell? ⟨w.heap.size + 1 + 1, 3, none⟩ = some (.int .u32 D) := cell_of_row _ _ 3 _ _ _ hV.x
              have xf : wr.frozen? ⟨w.heap.size + 1 + 1, 3, none⟩ = false := frozen_of_row _ _ 3 _ _ hV.x
              have y1 : wr.cell? ⟨w.heap.size + 1 + 1 + 1, 21, none⟩ = some (.int .i64 5) := cell_of_row _ _ 21 _ _ _ hV.ord
              have y2 : wr.cell? ⟨w.heap.size + 1, 5, none⟩ = some (.int .u32 i5) := cell_of_row _ _ 5 _ _ _ hV.inp
              have y3 : wr.cell? ⟨w.heap.size + 1 + 1 + 1 + 1 + 1, 2, none⟩ = some (.int .u32 1859775393) := cell_of_row _ _ 2 _ _ _ hV.add
              have y4 : wr.cell? ⟨w.heap.size + 1 + 1 + 1 + 1, 9, none⟩ = some (.int .i64 9) := cell_of_row _ _ 9 _ _ _ hV.turn
              have HV := Lib.hid hV; clear hV
              go_wp2
              go_quiet (fail)
              go_wp2
              go_region_held3 (fun w' => w'.cell? ⟨w.heap.size + 1 + 1 + 1, 21, none⟩ = some (.int .i64 5) ∧ w'.cell? ⟨w.heap.size + 1, 5, none⟩ = some (.int .u32 i5) ∧ w'.cell? ⟨w.heap.size + 1 + 1 + 1 + 1 + 1, 2, none⟩ = some (.int .u32 1859775393) ∧ w'.cell? ⟨w.heap.size + 1 + 1 + 1 + 1, 9, none⟩ = some (.int .i64 9)) (go_keep) (first | (go_at_call 15; refine (rotb_any _ _ _ (by decide) (by decide)).mono ?_; rintro e w' ⟨rfl, rfl⟩))
              go_wp2
              go_roundw
              case rel =>
                (repeat apply Exists.intro)
                refine ⟨⟨6, by omega, by go_num, ?_⟩, rfl⟩
                have e : ∀ t, t = (D + fW 2 A Bq C + (i5 + 1859775393) % 4294967296) % 4294967296 → rotW t 9 = R 2 D A Bq C ((i5 + 1859775393) % 4294967296) 9 := by rintro _ rfl; rfl
                rw [e _ (by simp only [fW]; omega)]
                have hq := HQ.out
                have hV := HV.out
                clear e HQ HV x0 x1 x2 x3 xf y1 y2 y3 y4
                rw [show (16 + 6 : Nat) = 21 + 1 from rfl, mdS_succ _ _ _ _ _ _ _ _ _ _ _ _ 21 (2, (i5 + 1859775393) % 4294967296, 9) rfl]
                generalize mdS b0 b1 b2 b3 i0 i1 i2 i3 i4 i5 i6 i7 21 = T at hq ⊢
                obtain ⟨t0, t1, t2, t3⟩ := T
                simp only [unr, Prod.mk.injEq] at hq
                obtain ⟨rfl, rfl, rfl, rfl⟩ := hq
                exact hV.store _ 3 _ _ rfl
              case measure => simp [intOf]
            · as_aux_lemma =>
              obtain ⟨⟨A, Bq, C, D⟩, hq⟩ : ∃ q, q = unr 6 (mdS b0 b1 b2 b3 i0 i1 i2 i3 i4 i5 i6 i7 22) := ⟨_, rfl⟩
              rw [← hq] at hV
              have HQ := Lib.hid hq; clear hq
              have x0 : wr.cell? ⟨w.heap.size + 1 + 1, 0, none⟩ = some (.int .u32 A) := cell_of_row _ _ 0 _ _ _ hV.x
              have x1 : wr.cell? ⟨w.heap.size + 1 + 1, 1, none⟩ = some (.int .u32 Bq) := cell_of_row _ _ 1 _ _ _ hV.x
              have x2 : wr.cell? ⟨w.heap.size + 1 + 1, 2, none⟩ = some (.int .u32 C) := cell_of_row _ _ 2 _ _ _ hV.x
              have x3 : wr.cell? ⟨w.heap.size + 1 + 1, 3, none⟩ = some (.int .u32 D) := cell_of_row _ _ 3 _ _ _ hV.x
              have xf : wr.frozen? ⟨w.heap.size + 1 + 1, 2, none⟩ = false := frozen_of_row _ _ 2 _ _ hV.x
              have y1 : wr.cell? ⟨w.heap.size + 1 + 1 + 1, 22, none⟩ = some (.int .i64 0) := cell_of_row _ _ 22 _ _ _ hV.ord
              have y2 : wr.cell? ⟨w.heap.size + 1, 0, none⟩ = some (.int .u32 i0) := cell_of_row _ _ 0 _ _ _ hV.inp
              have y3 : wr.cell? ⟨w.heap.size + 1 + 1 + 1 + 1 + 1, 2, none⟩ = some (.int .u32 1859775393) := cell_of_row _ _ 2 _ _ _ hV.add
              have y4 : wr.cell? ⟨w.heap.size + 1 + 1 + 1 + 1, 10, none⟩ = some (.int .i64 11) := cell_of_row _ _ 10 _ _ _ hV.turn
              have HV := Lib.hid hV; clear hV
              go_wp2
              go_quiet (fail)
              go_wp2
              go_region_held3 (fun w' => w'.cell? ⟨w.heap.size + 1 + 1 + 1, 22, none⟩ = some (.int .i64 0) ∧ w'.cell? ⟨w.heap.size + 1, 0, none⟩ = some (.int .u32 i0) ∧ w'.cell? ⟨w.heap.size + 1 + 1 + 1 + 1 + 1, 2, none⟩ = some (.int .u32 1859775393) ∧ w'.cell? ⟨w.heap.size + 1 + 1 + 1 + 1, 10, none⟩ = some (.int .i64 11)) (go_keep) (first | (go_at_call 15; refine (rotb_any _ _ _ (by decide) (by decide)).mono ?_; rintro e w' ⟨rfl, rfl⟩))
              go_wp2
              go_roundw
              case rel =>
                (repeat apply Exists.intro)
                refine ⟨⟨7, by omega, by go_num, ?_⟩, rfl⟩
                have e : ∀ t, t = (C + fW 2 D A Bq + (i0 + 1859775393) % 4294967296) % 4294967296 → rotW t 11 = R 2 C D A Bq ((i0 + 1859775393) % 4294967296) 11 := by rintro _ rfl; rfl
                rw [e _ (by simp only [fW]; omega)]
                have hq := HQ.out
                have hV := HV.out
                clear e HQ HV x0 x1 x2 x3 xf y1 y2 y3 y4
                rw [show (16 + 7 : Nat) = 22 + 1 from rfl, mdS_succ _ _ _ _ _ _ _ _ _ _ _ _ 22 (2, (i0 + 1859775393) % 4294967296, 11) rfl]
                generalize mdS b0 b1 b2 b3 i0 i1 i2 i3 i4 i5 i6 i7 22 = T at hq ⊢
                obtain ⟨t0, t1, t2, t3⟩ := T
                simp only [unr, Prod.mk.injEq] at hq
                obtain ⟨rfl, rfl, rfl, rfl⟩ := hq
                exact hV.store _ 2 _ _ rfl
              case measure => simp [intOf]
            · as_aux_lemma =>
              obtain ⟨⟨A, Bq, C, D⟩, hq⟩ : ∃ q, q = unr 7 (mdS b0 b1 b2 b3 i0 i1 i2 i3 i4 i5 i6 i7 23) := ⟨_, rfl⟩
              rw [← hq] at hV
              have HQ := Lib.hid hq; clear hq
              have x0 : wr.cell? ⟨w.heap.size + 1 + 1, 0, none⟩ = some (.int .u32 A) := cell_of_row _ _ 0 _ _ _ hV.x
              have x1 : wr.cell? ⟨w.heap.size + 1 + 1, 1, none⟩ = some (.int .u32 Bq) := cell_of_row _ _ 1 _ _ _ hV.x
              have x2 : wr.cell? ⟨w.heap.size + 1 + 1, 2, none⟩ = some (.int .u32 C) := cell_of_row _ _ 2 _ _ _ hV.x
              have x3 : wr.cell? ⟨w.heap.size + 1 + 1, 3, none⟩ = some (.int .u32 D) := cell_of_row _ _ 3 _ _ _ hV.x
              have xf : wr.frozen? ⟨w.heap.size + 1 + 1, 1, none⟩ = false := frozen_of_row _ _ 1 _ _ hV.x
              have y1 : wr.cell? ⟨w.heap.size + 1 + 1 + 1, 23, none⟩ = some (.int .i64 4) := cell_of_row _ _ 23 _ _ _ hV.ord
              have y2 : wr.cell? ⟨w.heap.size + 1, 4, none⟩ = some (.int .u32 i4) := cell_of_row _ _ 4 _ _ _ hV.inp
              have y3 : wr.cell? ⟨w.heap.size + 1 + 1 + 1 + 1 + 1, 2, none⟩ = some (.int .u32 1859775393) := cell_of_row _ _ 2 _ _ _ hV.add
              have y4 : wr.cell? ⟨w.heap.size + 1 + 1 + 1 + 1, 11, none⟩ = some (.int .i64 15) := cell_of_row _ _ 11 _ _ _ hV.turn
              have HV := Lib.hid hV; clear hV
              go_wp2
              go_quiet (fail)
              go_wp2
              go_region_held3 (fun w' => w'.cell? ⟨w.heap.size + 1 + 1 + 1, 23, none⟩ = some (.int .i64 4) ∧ w'.cell? ⟨w.heap.size + 1, 4, none⟩ = some (.int .u32 i4) ∧ w'.cell? ⟨w.heap.size + 1 + 1 + 1 + 1 + 1, 2, none⟩ = some (.int .u32 1859775393) ∧ w'.cell? ⟨w.heap.size + 1 + 1 + 1 + 1, 11, none⟩ = some (.int .i64 15)) (go_keep) (first | (go_at_call 15; refine (rotb_any _ _ _ (by decide) (by decide)).mono ?_; rintro e w' ⟨rfl, rfl⟩))
              go_wp2
              go_roundw
              case rel =>
                (repeat apply Exists.intro)
                refine ⟨⟨8, by omega, by go_num, ?_⟩, rfl⟩
                have e : ∀ t, t = (Bq + fW 2 C D A + (i4 + 1859775393) % 4294967296) % 4294967296 → rotW t 15 = R 2 Bq C D A ((i4 + 1859775393) % 4294967296) 15 := by rintro _ rfl; rfl
                rw [e _ (by simp only [fW]; omega)]
                have hq := HQ.out
                have hV := HV.out
                clear e HQ HV x0 x1 x2 x3 xf y1 y2 y3 y4
                rw [show (16 + 8 : Nat) = 23 + 1 from rfl, mdS_succ _ _ _ _ _ _ _ _ _ _ _ _ 23 (2, (i4 + 1859775393) % 4294967296, 15) rfl]
                generalize mdS b0 b1 b2 b3 i0 i1 i2 i3 i4 i5 i6 i7 23 = T at hq ⊢
                obtain ⟨t0, t1, t2, t3⟩ := T
                simp only [unr, Prod.mk.injEq] at hq
                obtain ⟨rfl, rfl, rfl, rfl⟩ := hq
                exact hV.store _ 1 _ _ rfl
              case measure => simp [intOf]
          · have e8 : k = 8 := by omega
            subst e8
            have HV := Lib.hid hV; clear hV
            go_wp2
            go_roundw
            case rel => exact ⟨3, by omega, by go_num, HV.out⟩
            case measure => simp [intOf]
    · have e3 : n = 3 := by omega
      subst e3
      obtain ⟨⟨A, Bq, C, D⟩, hq⟩ : ∃ q, q = mdS b0 b1 b2 b3 i0 i1 i2 i3 i4 i5 i6 i7 24 := ⟨_, rfl⟩
      have hW2 : MdW w wr b0 b1 b2 b3 i0 i1 i2 i3 i4 i5 i6 i7 (mdS b0 b1 b2 b3 i0 i1 i2 i3 i4 i5 i6 i7 24) := hW
      rw [← hq] at hW2
      have HQ := Lib.hid hq; clear hq
      have x1 : wr.cell? ⟨w.heap.size + 1 + 1, 1, none⟩ = some (.int .u32 Bq) := cell_of_row _ _ 1 _ _ _ hW2.x
      have x0 : wr.cell? ⟨w.heap.size, 1, none⟩ = some (.int .u32 b1) := cell_of_row _ _ 1 _ _ _ hW2.box
      have hb := hW2.below
      clear hW hW2
      go_wp2
      go_ret
      refine ⟨?_, hb⟩
      have e : (mdT b0 b1 b2 b3 i0 i1 i2 i3 i4 i5 i6 i7).2.1 = Bq := by
        have hT : mdT b0 b1 b2 b3 i0 i1 i2 i3 i4 i5 i6 i7 = mdS b0 b1 b2 b3 i0 i1 i2 i3 i4 i5 i6 i7 24 := rfl
        rw [hT, ← HQ.out]
      rw [mdOut, e]
      rfl

end Go.Proofs.Ytginjbmjofkomaa
