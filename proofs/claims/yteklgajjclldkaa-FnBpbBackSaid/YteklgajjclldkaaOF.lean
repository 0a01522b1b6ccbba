/- Walks of bpbKind and bpbOf. -/
import Derived.Test.YteklgajjclldkaaX
import Derived.Deep.DrawnRows
namespace Go.Proofs.Yteklgajjclldkaa
open Go.RowKit
attribute [local go_sem ↓] Go.wp_at_zero Go.wp_at_succ
set_option linter.unusedVariables false

theorem text11_any (s : ByteArray) (w : World) (hs : s.size ≤ maxLen) :
    Calls Try.prog 9 #[.string s, .int .i64 11] w fun e w' => ∃ ts : List Int, e = .returned (.string (strOfNums ts)) ∧ AscL ts ∧ ts.length ≤ 11 ∧ w = w' := text_any s 11 w hs (by omega)
theorem text8_any (s : ByteArray) (w : World) (hs : s.size ≤ maxLen) :
    Calls Try.prog 9 #[.string s, .int .i64 8] w fun e w' => ∃ ts : List Int, e = .returned (.string (strOfNums ts)) ∧ AscL ts ∧ ts.length ≤ 8 ∧ w = w' := text_any s 8 w hs (by omega)
theorem kind0_any (n : Int) (w : World) (h0 : 0 ≤ n) (h1 : n ≤ 255) (hr : n % 3 = 0) : Calls Try.prog 8 #[.int .u8 n] w fun e w' => e = .returned (.int .i64 20) ∧ w' = w.alloc (.cells #[.int .i64 20, .int .i64 331, .int .i64 40] 3) := by
  go_enter Try.func8, Try.ntmps8
  go_wp2
  go_ret
  exact ⟨rfl, rfl⟩
theorem kind1_any (n : Int) (w : World) (h0 : 0 ≤ n) (h1 : n ≤ 255) (hr : n % 3 = 1) : Calls Try.prog 8 #[.int .u8 n] w fun e w' => e = .returned (.int .i64 331) ∧ w' = w.alloc (.cells #[.int .i64 20, .int .i64 331, .int .i64 40] 3) := by
  go_enter Try.func8, Try.ntmps8
  go_wp2
  go_ret
  exact ⟨rfl, rfl⟩
theorem kind2_any (n : Int) (w : World) (h0 : 0 ≤ n) (h1 : n ≤ 255) (hr : n % 3 = 2) : Calls Try.prog 8 #[.int .u8 n] w fun e w' => e = .returned (.int .i64 40) ∧ w' = w.alloc (.cells #[.int .i64 20, .int .i64 331, .int .i64 40] 3) := by
  go_enter Try.func8, Try.ntmps8
  go_wp2
  go_ret
  exact ⟨rfl, rfl⟩

set_option maxRecDepth 100000 in
set_option maxHeartbeats 4000000 in
theorem of20_any (n : Int) (l0 l1 l2 l3 l4 l5 l6 l7 l8 l9 l10 l11 l12 l13 l14 l15 : Int) (s t : ByteArray) (w : World) (h0 : 0 ≤ n) (h1 : n ≤ 255) (hr : n % 3 = 0) :
    Calls Try.prog 4 #[.int .u8 n, .agg #[.int .u32 l0, .int .u32 l1, .int .u32 l2, .int .u32 l3, .int .u32 l4, .int .u32 l5, .int .u32 l6, .int .u32 l7, .int .u32 l8, .int .u32 l9, .int .u32 l10, .int .u32 l11, .int .u32 l12, .int .u32 l13, .int .u32 l14, .int .u32 l15], .string s, .string t] w fun e w' => e = .returned (.agg #[.int .i64 20, .int .i64 512, .int .i64 (m8 l0), .int .i64 (m16 l1), .int .i64 (m8 l2), .int .i64 (m16 l3), .int .i64 (m16 l4), .int .i64 (m8 l5), .int .i64 (m16 l6), .int .i64 0, .int .i64 0, .int .i64 0, .int .i64 0, .int .i64 0, .int .i64 0, .int .i64 0, .int .i64 0, .string ⟨#[]⟩, .string ⟨#[]⟩]) ∧ Below w.heap.size w w' := by
  have HR := Lib.hid hr
  clear hr
  go_enter Try.func4, Try.ntmps4
  go_wp2
  go_region_held3 (fun w' => blkD w' w.heap.size = #[.int .u32 l0, .int .u32 l1, .int .u32 l2, .int .u32 l3, .int .u32 l4, .int .u32 l5, .int .u32 l6, .int .u32 l7, .int .u32 l8, .int .u32 l9, .int .u32 l10, .int .u32 l11, .int .u32 l12, .int .u32 l13, .int .u32 l14, .int .u32 l15])
    (first | (with_reducible assumption) | (simp [go_sem]; done))
    (first | (go_at_call 8; refine (kind0_any n _ h0 h1 HR.out).mono ?_; rintro e w1 ⟨rfl, rfl⟩))
  all_goals go_wp2
  all_goals (refine bodyPost_ret (v := .agg #[.int .i64 20, .int .i64 512, .int .i64 (m8 l0), .int .i64 (m16 l1), .int .i64 (m8 l2), .int .i64 (m16 l3), .int .i64 (m16 l4), .int .i64 (m8 l5), .int .i64 (m16 l6), .int .i64 0, .int .i64 0, .int .i64 0, .int .i64 0, .int .i64 0, .int .i64 0, .int .i64 0, .int .i64 0, .string ⟨#[]⟩, .string ⟨#[]⟩]) (results4_blk _ _ (w.heap.size + 1) _ (by rfl) (by simp [go_sem, *]) rfl) rfl ⟨rfl, ?_⟩)
  all_goals (repeat (first | (with_reducible exact Below.refl _ _) | (with_reducible refine below_drewN ?_ _) | (with_reducible refine Below.drew ?_) | (with_reducible refine Below.alloc ?_ ?_ _)))
  all_goals (simp <;> omega)

set_option maxRecDepth 100000 in
set_option maxHeartbeats 4000000 in
theorem of331_any (n : Int) (l0 l1 l2 l3 l4 l5 l6 l7 l8 l9 l10 l11 l12 l13 l14 l15 : Int) (s t : ByteArray) (w : World) (h0 : 0 ≤ n) (h1 : n ≤ 255) (hr : n % 3 = 1) (a9 : 0 ≤ l9) (b9 : l9 ≤ 4294967295) (a10 : 0 ≤ l10) (b10 : l10 ≤ 4294967295) :
    Calls Try.prog 4 #[.int .u8 n, .agg #[.int .u32 l0, .int .u32 l1, .int .u32 l2, .int .u32 l3, .int .u32 l4, .int .u32 l5, .int .u32 l6, .int .u32 l7, .int .u32 l8, .int .u32 l9, .int .u32 l10, .int .u32 l11, .int .u32 l12, .int .u32 l13, .int .u32 l14, .int .u32 l15], .string s, .string t] w fun e w' => e = .returned (.agg #[.int .i64 331, .int .i64 512, .int .i64 (m8 l0), .int .i64 (m16 l1), .int .i64 (m8 l2), .int .i64 (m16 l3), .int .i64 (m16 l4), .int .i64 (m8 l5), .int .i64 (m16 l6), .int .i64 (m16 l7), .int .i64 (m16 l8), .int .i64 l9, .int .i64 l10, .int .i64 0, .int .i64 0, .int .i64 0, .int .i64 0, .string ⟨#[]⟩, .string ⟨#[]⟩]) ∧ Below w.heap.size w w' := by
  have HR := Lib.hid hr
  clear hr
  go_enter Try.func4, Try.ntmps4
  go_wp2
  go_region_held3 (fun w' => blkD w' w.heap.size = #[.int .u32 l0, .int .u32 l1, .int .u32 l2, .int .u32 l3, .int .u32 l4, .int .u32 l5, .int .u32 l6, .int .u32 l7, .int .u32 l8, .int .u32 l9, .int .u32 l10, .int .u32 l11, .int .u32 l12, .int .u32 l13, .int .u32 l14, .int .u32 l15])
    (first | (with_reducible assumption) | (simp [go_sem]; done))
    (first | (go_at_call 8; refine (kind1_any n _ h0 h1 HR.out).mono ?_; rintro e w1 ⟨rfl, rfl⟩))
  all_goals go_wp2
  all_goals go_region_held3 (fun w' => blkD w' w.heap.size = #[.int .u32 l0, .int .u32 l1, .int .u32 l2, .int .u32 l3, .int .u32 l4, .int .u32 l5, .int .u32 l6, .int .u32 l7, .int .u32 l8, .int .u32 l9, .int .u32 l10, .int .u32 l11, .int .u32 l12, .int .u32 l13, .int .u32 l14, .int .u32 l15])
    (first | (with_reducible assumption) | (simp [go_sem]; done)) (fail)
  all_goals go_wp2
  all_goals (refine bodyPost_ret (v := .agg #[.int .i64 331, .int .i64 512, .int .i64 (m8 l0), .int .i64 (m16 l1), .int .i64 (m8 l2), .int .i64 (m16 l3), .int .i64 (m16 l4), .int .i64 (m8 l5), .int .i64 (m16 l6), .int .i64 (m16 l7), .int .i64 (m16 l8), .int .i64 l9, .int .i64 l10, .int .i64 0, .int .i64 0, .int .i64 0, .int .i64 0, .string ⟨#[]⟩, .string ⟨#[]⟩]) (results4_blk _ _ (w.heap.size + 1) _ (by rfl) (by simp [go_sem, *]) rfl) rfl ⟨rfl, ?_⟩)
  all_goals (repeat (first | (with_reducible exact Below.refl _ _) | (with_reducible refine below_drewN ?_ _) | (with_reducible refine Below.drew ?_) | (with_reducible refine Below.alloc ?_ ?_ _)))
  all_goals (simp <;> omega)

set_option maxRecDepth 100000 in
set_option maxHeartbeats 4000000 in
theorem of40s_any (n : Int) (l0 l1 l2 l3 l4 l5 l6 l7 l8 l9 l10 l11 l12 l13 l14 l15 : Int) (s t : ByteArray) (w : World) (h0 : 0 ≤ n) (h1 : n ≤ 255) (hr : n % 3 = 2) (a9 : 0 ≤ l9) (b9 : l9 ≤ 4294967295) (a10 : 0 ≤ l10) (b10 : l10 ≤ 4294967295) (a14 : 0 ≤ l14) (b14 : l14 ≤ 4294967295) (hb : m1 l13 = 0) :
    Calls Try.prog 4 #[.int .u8 n, .agg #[.int .u32 l0, .int .u32 l1, .int .u32 l2, .int .u32 l3, .int .u32 l4, .int .u32 l5, .int .u32 l6, .int .u32 l7, .int .u32 l8, .int .u32 l9, .int .u32 l10, .int .u32 l11, .int .u32 l12, .int .u32 l13, .int .u32 l14, .int .u32 l15], .string s, .string t] w fun e w' => e = .returned (.agg #[.int .i64 40, .int .i64 512, .int .i64 (m8 l0), .int .i64 (m16 l1), .int .i64 (m8 l2), .int .i64 (m16 l3), .int .i64 (m16 l4), .int .i64 (m8 l5), .int .i64 (m16 l6), .int .i64 (m16 l7), .int .i64 (m16 l8), .int .i64 l9, .int .i64 l10, .int .i64 (m8 l11), .int .i64 (m8 l12), .int .i64 40, .int .i64 l14, .string ⟨#[]⟩, .string ⟨#[]⟩]) ∧ Below w.heap.size w w' := by
  have hw : wrap64 (40 + m1 l13) = 40 := by rw [hb]; exact IntWalk.wrap64_in _ ⟨by omega, by omega⟩
  have hw2 : IntKind.i64.wrap (40 + m1 l13) = 40 := by rw [hb]; exact IntWalk.i64_in _ (by omega)
  have HR := Lib.hid hr
  clear hr
  go_enter Try.func4, Try.ntmps4
  go_wp2
  go_region_held3 (fun w' => blkD w' w.heap.size = #[.int .u32 l0, .int .u32 l1, .int .u32 l2, .int .u32 l3, .int .u32 l4, .int .u32 l5, .int .u32 l6, .int .u32 l7, .int .u32 l8, .int .u32 l9, .int .u32 l10, .int .u32 l11, .int .u32 l12, .int .u32 l13, .int .u32 l14, .int .u32 l15])
    (first | (with_reducible assumption) | (simp [go_sem]; done))
    (first | (go_at_call 8; refine (kind2_any n _ h0 h1 HR.out).mono ?_; rintro e w1 ⟨rfl, rfl⟩))
  all_goals go_wp2
  all_goals go_region_held3 (fun w' => blkD w' w.heap.size = #[.int .u32 l0, .int .u32 l1, .int .u32 l2, .int .u32 l3, .int .u32 l4, .int .u32 l5, .int .u32 l6, .int .u32 l7, .int .u32 l8, .int .u32 l9, .int .u32 l10, .int .u32 l11, .int .u32 l12, .int .u32 l13, .int .u32 l14, .int .u32 l15])
    (first | (with_reducible assumption) | (simp [go_sem]; done)) (fail)
  all_goals go_wp2
  all_goals go_region_held3 (fun w' => blkD w' w.heap.size = #[.int .u32 l0, .int .u32 l1, .int .u32 l2, .int .u32 l3, .int .u32 l4, .int .u32 l5, .int .u32 l6, .int .u32 l7, .int .u32 l8, .int .u32 l9, .int .u32 l10, .int .u32 l11, .int .u32 l12, .int .u32 l13, .int .u32 l14, .int .u32 l15])
    (first | (with_reducible assumption) | (simp [go_sem]; done)) (fail)
  all_goals go_wp2
  all_goals (refine bodyPost_ret (v := .agg #[.int .i64 40, .int .i64 512, .int .i64 (m8 l0), .int .i64 (m16 l1), .int .i64 (m8 l2), .int .i64 (m16 l3), .int .i64 (m16 l4), .int .i64 (m8 l5), .int .i64 (m16 l6), .int .i64 (m16 l7), .int .i64 (m16 l8), .int .i64 l9, .int .i64 l10, .int .i64 (m8 l11), .int .i64 (m8 l12), .int .i64 40, .int .i64 l14, .string ⟨#[]⟩, .string ⟨#[]⟩]) (results4_blk _ _ (w.heap.size + 1) _ (by rfl) (by simp [go_sem, *]) rfl) rfl ⟨rfl, ?_⟩)
  all_goals (repeat (first | (with_reducible exact Below.refl _ _) | (with_reducible refine below_drewN ?_ _) | (with_reducible refine Below.drew ?_) | (with_reducible refine Below.alloc ?_ ?_ _)))
  all_goals (simp <;> omega)

set_option maxRecDepth 100000 in
set_option maxHeartbeats 4000000 in
theorem of40l_any (n : Int) (l0 l1 l2 l3 l4 l5 l6 l7 l8 l9 l10 l11 l12 l13 l14 l15 : Int) (s t : ByteArray) (w : World) (h0 : 0 ≤ n) (h1 : n ≤ 255) (hr : n % 3 = 2) (a9 : 0 ≤ l9) (b9 : l9 ≤ 4294967295) (a10 : 0 ≤ l10) (b10 : l10 ≤ 4294967295) (a14 : 0 ≤ l14) (b14 : l14 ≤ 4294967295) (hb : m1 l13 = 1) (hs : s.size ≤ maxLen) (ht : t.size ≤ maxLen) :
    Calls Try.prog 4 #[.int .u8 n, .agg #[.int .u32 l0, .int .u32 l1, .int .u32 l2, .int .u32 l3, .int .u32 l4, .int .u32 l5, .int .u32 l6, .int .u32 l7, .int .u32 l8, .int .u32 l9, .int .u32 l10, .int .u32 l11, .int .u32 l12, .int .u32 l13, .int .u32 l14, .int .u32 l15], .string s, .string t] w fun e w' => ∃ ts us : List Int, e = .returned (.agg #[.int .i64 40, .int .i64 512, .int .i64 (m8 l0), .int .i64 (m16 l1), .int .i64 (m8 l2), .int .i64 (m16 l3), .int .i64 (m16 l4), .int .i64 (m8 l5), .int .i64 (m16 l6), .int .i64 (m16 l7), .int .i64 (m16 l8), .int .i64 l9, .int .i64 l10, .int .i64 (m8 l11), .int .i64 (m8 l12), .int .i64 41, .int .i64 l14, .string (strOfNums ts), .string (strOfNums us)]) ∧ AscL ts ∧ AscL us ∧ ts.length ≤ 11 ∧ us.length ≤ 8 ∧ Below w.heap.size w w' := by
  have hw : wrap64 (40 + m1 l13) = 41 := by rw [hb]; exact IntWalk.wrap64_in _ ⟨by omega, by omega⟩
  have hw2 : IntKind.i64.wrap (40 + m1 l13) = 41 := by rw [hb]; exact IntWalk.i64_in _ (by omega)
  have HR := Lib.hid hr
  clear hr
  go_enter Try.func4, Try.ntmps4
  go_wp2
  go_region_held3 (fun w' => blkD w' w.heap.size = #[.int .u32 l0, .int .u32 l1, .int .u32 l2, .int .u32 l3, .int .u32 l4, .int .u32 l5, .int .u32 l6, .int .u32 l7, .int .u32 l8, .int .u32 l9, .int .u32 l10, .int .u32 l11, .int .u32 l12, .int .u32 l13, .int .u32 l14, .int .u32 l15])
    (first | (with_reducible assumption) | (simp [go_sem]; done))
    (first | (go_at_call 8; refine (kind2_any n _ h0 h1 HR.out).mono ?_; rintro e w1 ⟨rfl, rfl⟩))
  all_goals go_wp2
  all_goals go_region_held3 (fun w' => blkD w' w.heap.size = #[.int .u32 l0, .int .u32 l1, .int .u32 l2, .int .u32 l3, .int .u32 l4, .int .u32 l5, .int .u32 l6, .int .u32 l7, .int .u32 l8, .int .u32 l9, .int .u32 l10, .int .u32 l11, .int .u32 l12, .int .u32 l13, .int .u32 l14, .int .u32 l15])
    (first | (with_reducible assumption) | (simp [go_sem]; done)) (fail)
  all_goals go_wp2
  all_goals go_region_held3 (fun w' => blkD w' w.heap.size = #[.int .u32 l0, .int .u32 l1, .int .u32 l2, .int .u32 l3, .int .u32 l4, .int .u32 l5, .int .u32 l6, .int .u32 l7, .int .u32 l8, .int .u32 l9, .int .u32 l10, .int .u32 l11, .int .u32 l12, .int .u32 l13, .int .u32 l14, .int .u32 l15])
    (first | (with_reducible assumption) | (simp [go_sem]; done)) (fail)
  all_goals go_wp2_with (first | (go_at_call 9; (with_reducible refine (text11_any s _ hs).mono ?_); rintro e w' ⟨ts, rfl, ha, hla, rfl⟩; have HA := Lib.hid ha; clear ha) | (go_at_call 9; (with_reducible refine (text8_any t _ ht).mono ?_); rintro e w' ⟨us, rfl, hu, hlu, rfl⟩; have HU := Lib.hid hu; clear hu))
  all_goals (refine bodyPost_ret (v := .agg #[.int .i64 40, .int .i64 512, .int .i64 (m8 l0), .int .i64 (m16 l1), .int .i64 (m8 l2), .int .i64 (m16 l3), .int .i64 (m16 l4), .int .i64 (m8 l5), .int .i64 (m16 l6), .int .i64 (m16 l7), .int .i64 (m16 l8), .int .i64 l9, .int .i64 l10, .int .i64 (m8 l11), .int .i64 (m8 l12), .int .i64 41, .int .i64 l14, .string (strOfNums ts), .string (strOfNums us)]) (results4_blk _ _ (w.heap.size + 1) _ (by rfl) (by simp [go_sem, *]) rfl) rfl ⟨ts, us, rfl, HA.out, HU.out, hla, hlu, ?_⟩)
  all_goals (repeat (first | (with_reducible exact Below.refl _ _) | (with_reducible refine below_drewN ?_ _) | (with_reducible refine Below.drew ?_) | (with_reducible refine Below.alloc ?_ ?_ _)))
  all_goals (simp <;> omega)
end Go.Proofs.Yteklgajjclldkaa
