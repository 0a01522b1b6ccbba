/- Walk of the law FnBpbBack. -/
import Derived.Test.YteklgajjclldkaaOF
import Derived.Test.YteklgajjclldkaaTR
import Derived.Test.YteklgajjclldkaaPQ
import Derived.Deep.DeepCutAuto
namespace Go.Proofs.Yteklgajjclldkaa
open Go.RowKit
attribute [local go_sem ↓] Go.wp_at_zero Go.wp_at_succ
set_option linter.unusedVariables false

theorem list11 {xs : List Int} (h : xs.length = 11) : ∃ t0 t1 t2 t3 t4 t5 t6 t7 t8 t9 t10, xs = [t0, t1, t2, t3, t4, t5, t6, t7, t8, t9, t10] := by
  match xs, h with
  | [t0, t1, t2, t3, t4, t5, t6, t7, t8, t9, t10], _ => exact ⟨t0, t1, t2, t3, t4, t5, t6, t7, t8, t9, t10, rfl⟩
theorem list8 {xs : List Int} (h : xs.length = 8) : ∃ u0 u1 u2 u3 u4 u5 u6 u7, xs = [u0, u1, u2, u3, u4, u5, u6, u7] := by
  match xs, h with
  | [u0, u1, u2, u3, u4, u5, u6, u7], _ => exact ⟨u0, u1, u2, u3, u4, u5, u6, u7, rfl⟩
theorem Asc.byte {xs : List Int} (h : Asc xs) {x : Int} (hx : x ∈ xs) : inByte x = true := by
  have := h x hx
  simp only [inByte, decide_eq_true_eq]
  omega
theorem trim_nil (w : World) : Calls Try.prog 7 #[.string ⟨#[]⟩] w fun e w' => e = .returned (.string ⟨#[]⟩) ∧ w = w' := trim_any [] w (byt_all rfl) (by simp)
theorem trim_txt (ts : List Int) (w : World) (h : AscL ts) (hl : ts.length ≤ 1000) : Calls Try.prog 7 #[.string (strOfNums ts)] w fun e w' => e = .returned (.string (strOfNums ts)) ∧ w = w' := by
  have hx := trim_any ts w (byt_all (List.all_eq_true.2 fun x hx => h.1.byte hx)) hl
  rwa [trimL_self h.2] at hx

theorem law_back_big (n : Int) (v : Value) (s t : ByteArray) (w : World) (h : 2147483647 < s.size ∨ 2147483647 < t.size) (ls : List Int) (hv : v = .agg (ls.map (Value.int .u32)).toArray) :
    Calls Try.prog 3 #[.int .u8 n, v, .string s, .string t] w fun e w' => e = .returned (.bool true) ∧ Below w.heap.size w w' := by
  subst hv
  by_cases h1 : 2147483647 < s.size
  · go_enter Try.func3, Try.ntmps3
    go_wp2_with fail
    go_ret
    exact ⟨rfl, (Below.refl _ _).alloc (Nat.le_refl _) _⟩
  · have h2 : 2147483647 < t.size := by omega
    go_enter Try.func3, Try.ntmps3
    go_wp2_with fail
    go_ret
    exact ⟨rfl, (Below.refl _ _).alloc (Nat.le_refl _) _⟩

theorem of40_any (n : Int) (l0 l1 l2 l3 l4 l5 l6 l7 l8 l9 l10 l11 l12 l13 l14 l15 : Int) (s t : ByteArray) (w : World) (h0 : 0 ≤ n) (h1 : n ≤ 255) (hs : ¬ 2147483647 < s.size) (ht : ¬ 2147483647 < t.size) (hr : n % 3 = 2) (a9 : 0 ≤ l9) (b9 : l9 ≤ 4294967295) (a10 : 0 ≤ l10) (b10 : l10 ≤ 4294967295) (a14 : 0 ≤ l14) (b14 : l14 ≤ 4294967295) :
    Calls Try.prog 4 #[.int .u8 n, .agg #[.int .u32 l0, .int .u32 l1, .int .u32 l2, .int .u32 l3, .int .u32 l4, .int .u32 l5, .int .u32 l6, .int .u32 l7, .int .u32 l8, .int .u32 l9, .int .u32 l10, .int .u32 l11, .int .u32 l12, .int .u32 l13, .int .u32 l14, .int .u32 l15], .string s, .string t] w fun e w' => ∃ (sig : Int) (ts us : List Int), e = .returned (.agg #[.int .i64 40, .int .i64 512, .int .i64 (m8 l0), .int .i64 (m16 l1), .int .i64 (m8 l2), .int .i64 (m16 l3), .int .i64 (m16 l4), .int .i64 (m8 l5), .int .i64 (m16 l6), .int .i64 (m16 l7), .int .i64 (m16 l8), .int .i64 l9, .int .i64 l10, .int .i64 (m8 l11), .int .i64 (m8 l12), .int .i64 sig, .int .i64 l14, .string (strOfNums ts), .string (strOfNums us)]) ∧ AscL ts ∧ AscL us ∧ ts.length ≤ 11 ∧ us.length ≤ 8 ∧ Below w.heap.size w w' := by
  have hm := m1_le l13
  rcases (show m1 l13 = 0 ∨ m1 l13 = 1 from by omega) with hb | hb
  · refine (of40s_any n l0 l1 l2 l3 l4 l5 l6 l7 l8 l9 l10 l11 l12 l13 l14 l15 s t w h0 h1 hr a9 b9 a10 b10 a14 b14 hb).mono ?_
    rintro e w' ⟨rfl, hbl⟩
    exact ⟨40, [], [], rfl, AscL.nil, AscL.nil, by simp, by simp, hbl⟩
  · refine (of40l_any n l0 l1 l2 l3 l4 l5 l6 l7 l8 l9 l10 l11 l12 l13 l14 l15 s t w h0 h1 hr a9 b9 a10 b10 a14 b14 hb (by unfold maxLen; omega) (by unfold maxLen; omega)).mono ?_
    rintro e w' ⟨ts, us, rfl, ha, hu, hta, hua, hbl⟩
    exact ⟨41, ts, us, rfl, ha, hu, hta, hua, hbl⟩

set_option maxRecDepth 100000 in
set_option maxHeartbeats 8000000 in
theorem law_back20 (n : Int) (l0 l1 l2 l3 l4 l5 l6 l7 l8 l9 l10 l11 l12 l13 l14 l15 : Int) (s t : ByteArray) (w : World) (h0 : 0 ≤ n) (h1 : n ≤ 255) (hs : ¬ 2147483647 < s.size) (ht : ¬ 2147483647 < t.size) (hr : n % 3 = 0) :
    Calls Try.prog 3 #[.int .u8 n, .agg #[.int .u32 l0, .int .u32 l1, .int .u32 l2, .int .u32 l3, .int .u32 l4, .int .u32 l5, .int .u32 l6, .int .u32 l7, .int .u32 l8, .int .u32 l9, .int .u32 l10, .int .u32 l11, .int .u32 l12, .int .u32 l13, .int .u32 l14, .int .u32 l15], .string s, .string t] w fun e w' => e = .returned (.bool true) ∧ Below w.heap.size w w' := by
  have HR := Lib.hid hr
  clear hr
  go_enter Try.func3, Try.ntmps3
  go_wp2_with fail
  refine (of20_any n l0 l1 l2 l3 l4 l5 l6 l7 l8 l9 l10 l11 l12 l13 l14 l15 s t _ h0 h1 HR.out).mono ?_
  rintro e w1 ⟨rfl, hb1⟩
  have hb1w : Below w.heap.size w w1 := ((Below.refl _ _).alloc (Nat.le_refl _) _).trans (hb1.mono (by simp))
  have HB1 := Lib.hid hb1w
  clear hb1 hb1w
  go_upto_region 4 with (fail)
  obtain ⟨g9, hg9⟩ : ∃ g, g = w1.heap.size := ⟨_, rfl⟩
  obtain ⟨WB, hWB⟩ : ∃ W, W = w1.alloc (.cells #[.int .i64 20, .int .i64 512, .int .i64 (m8 l0), .int .i64 (m16 l1), .int .i64 (m8 l2), .int .i64 (m16 l3), .int .i64 (m16 l4), .int .i64 (m8 l5), .int .i64 (m16 l6), .int .i64 0, .int .i64 0, .int .i64 0, .int .i64 0, .int .i64 0, .int .i64 0, .int .i64 0, .int .i64 0, .string ⟨#[]⟩, .string ⟨#[]⟩] 25) := ⟨_, rfl⟩
  rw [← hWB, ← hg9]
  have hgb : blkD WB g9 = #[.int .i64 20, .int .i64 512, .int .i64 (m8 l0), .int .i64 (m16 l1), .int .i64 (m8 l2), .int .i64 (m16 l3), .int .i64 (m16 l4), .int .i64 (m8 l5), .int .i64 (m16 l6), .int .i64 0, .int .i64 0, .int .i64 0, .int .i64 0, .int .i64 0, .int .i64 0, .int .i64 0, .int .i64 0, .string ⟨#[]⟩, .string ⟨#[]⟩] := by rw [hWB]; exact blkD_alloc_at _ _ _ _ hg9
  have hgl : g9 < WB.heap.size := by rw [hWB, hg9]; simp
  have hgw : w.heap.size ≤ g9 := by rw [hg9]; exact HB1.out.size
  have hbw : Below w.heap.size w WB := by rw [hWB]; exact HB1.out.alloc HB1.out.size _
  have hz9 : (blkD WB g9).size = 19 := by rw [hgb]; rfl
  have c0 : WB.cell? ⟨g9, 0, none⟩ = some (.int .i64 20) := by rw [cell_blkD 0 (by rw [hz9]; omega), hgb]; rfl
  have HGB := Lib.hid hgb
  have HBW := Lib.hid hbw
  clear hbw hWB hg9 hz9
  go_wp2_with fail
  refine (bb20_any 512 (m8 l0) (m16 l1) (m8 l2) (m16 l3) (m16 l4) (m8 l5) (m16 l6) 0 0 0 0 0 0 0 0 ⟨#[]⟩ ⟨#[]⟩ _ (by omega) (by omega) (m8_le l0).1 (m8_le l0).2 (m16_le l1).1 (m16_le l1).2 (m8_le l2).1 (m8_le l2).2 (m16_le l3).1 (m16_le l3).2 (m16_le l4).1 (m16_le l4).2 (m8_le l5).1 (m8_le l5).2 (m16_le l6).1 (m16_le l6).2 (by omega) (by omega) (by omega) (by omega) (by omega) (by omega) (by omega) (by omega) (by omega) (by omega) (by omega) (by omega) (by omega) (by omega) (by omega) (by omega)).mono ?_
  rintro e w2 ⟨rfl, hb2⟩
  have hg2 : blkD w2 g9 = #[.int .i64 20, .int .i64 512, .int .i64 (m8 l0), .int .i64 (m16 l1), .int .i64 (m8 l2), .int .i64 (m16 l3), .int .i64 (m16 l4), .int .i64 (m8 l5), .int .i64 (m16 l6), .int .i64 0, .int .i64 0, .int .i64 0, .int .i64 0, .int .i64 0, .int .i64 0, .int .i64 0, .int .i64 0, .string ⟨#[]⟩, .string ⟨#[]⟩] := (bblk hb2 g9 hgl).trans HGB.out
  have d0 : w2.cell? ⟨g9, 0, none⟩ = some (.int .i64 20) := by rw [cell_blkD 0 (by rw [hg2]; simp), hg2]; rfl
  have hgl2 : g9 < w2.heap.size := Nat.lt_of_lt_of_le hgl hb2.size
  have hbw2 : Below w.heap.size w w2 := HBW.out.trans (hb2.mono HBW.out.size)
  have HG2 := Lib.hid hg2
  have HBW2 := Lib.hid hbw2
  clear hg2 hbw2 hb2 hgb c0
  go_wp2_with fail
  refine (rb20_any (m8 l0) (m16 l1) (m8 l2) (m16 l3) (m16 l4) (m8 l5) (m16 l6) _ (m8_le l0).1 (m8_le l0).2 (m16_le l1).1 (m16_le l1).2 (m8_le l2).1 (m8_le l2).2 (m16_le l3).1 (m16_le l3).2 (m16_le l4).1 (m16_le l4).2 (m8_le l5).1 (m8_le l5).2 (m16_le l6).1 (m16_le l6).2).mono ?_
  rintro e w3 ⟨rfl, hb3⟩
  have hg3 : blkD w3 g9 = #[.int .i64 20, .int .i64 512, .int .i64 (m8 l0), .int .i64 (m16 l1), .int .i64 (m8 l2), .int .i64 (m16 l3), .int .i64 (m16 l4), .int .i64 (m8 l5), .int .i64 (m16 l6), .int .i64 0, .int .i64 0, .int .i64 0, .int .i64 0, .int .i64 0, .int .i64 0, .int .i64 0, .int .i64 0, .string ⟨#[]⟩, .string ⟨#[]⟩] := (bblk hb3 g9 hgl2).trans HG2.out
  have hgl3 : g9 < w3.heap.size := Nat.lt_of_lt_of_le hgl2 hb3.size
  have hbw3 : Below w.heap.size w w3 := HBW2.out.trans (hb3.mono HBW2.out.size)
  have HG3 := Lib.hid hg3
  have HBW3 := Lib.hid hbw3
  clear hg3 hbw3 hb3 d0
  go_upto_region 8 with (fail)
  obtain ⟨g12, hg12⟩ : ∃ g, g = w3.heap.size := ⟨_, rfl⟩
  obtain ⟨WC, hWC⟩ : ∃ W, W = w3.alloc (.cells #[.int .i64 20, .int .i64 512, .int .i64 (m8 l0), .int .i64 (m16 l1), .int .i64 (m8 l2), .int .i64 (m16 l3), .int .i64 (m16 l4), .int .i64 (m8 l5), .int .i64 (m16 l6), .int .i64 0, .int .i64 0, .int .i64 0, .int .i64 0, .int .i64 0, .int .i64 0, .int .i64 0, .int .i64 0, .string ⟨#[]⟩, .string ⟨#[]⟩] 25) := ⟨_, rfl⟩
  rw [← hWC, ← hg12]
  have hgc : blkD WC g12 = #[.int .i64 20, .int .i64 512, .int .i64 (m8 l0), .int .i64 (m16 l1), .int .i64 (m8 l2), .int .i64 (m16 l3), .int .i64 (m16 l4), .int .i64 (m8 l5), .int .i64 (m16 l6), .int .i64 0, .int .i64 0, .int .i64 0, .int .i64 0, .int .i64 0, .int .i64 0, .int .i64 0, .int .i64 0, .string ⟨#[]⟩, .string ⟨#[]⟩] := by rw [hWC]; exact blkD_alloc_at _ _ _ _ hg12
  have hgc9 : blkD WC g9 = #[.int .i64 20, .int .i64 512, .int .i64 (m8 l0), .int .i64 (m16 l1), .int .i64 (m8 l2), .int .i64 (m16 l3), .int .i64 (m16 l4), .int .i64 (m8 l5), .int .i64 (m16 l6), .int .i64 0, .int .i64 0, .int .i64 0, .int .i64 0, .int .i64 0, .int .i64 0, .int .i64 0, .int .i64 0, .string ⟨#[]⟩, .string ⟨#[]⟩] := by rw [hWC]; exact (bblk ((Below.refl _ _).alloc (Nat.le_refl _) _) g9 hgl3).trans HG3.out
  have hne : ¬ g12 = g9 := by omega
  have hne' : ¬ g9 = g12 := by omega
  have hgw12 : w.heap.size ≤ g12 := by rw [hg12]; exact HBW3.out.size
  have hbwc : Below w.heap.size w WC := by rw [hWC]; exact HBW3.out.alloc HBW3.out.size _
  have HBWC := Lib.hid hbwc
  clear hbwc hWC hg12
  go_region_held3 (fun z => blkD z g12 = #[.int .i64 20, .int .i64 512, .int .i64 (m8 l0), .int .i64 (m16 l1), .int .i64 (m8 l2), .int .i64 (m16 l3), .int .i64 (m16 l4), .int .i64 (m8 l5), .int .i64 (m16 l6), .int .i64 0, .int .i64 0, .int .i64 0, .int .i64 0, .int .i64 0, .int .i64 0, .int .i64 0, .int .i64 0, .string ⟨#[]⟩, .string ⟨#[]⟩] ∧ blkD z g9 = #[.int .i64 20, .int .i64 512, .int .i64 (m8 l0), .int .i64 (m16 l1), .int .i64 (m8 l2), .int .i64 (m16 l3), .int .i64 (m16 l4), .int .i64 (m8 l5), .int .i64 (m16 l6), .int .i64 0, .int .i64 0, .int .i64 0, .int .i64 0, .int .i64 0, .int .i64 0, .int .i64 0, .int .i64 0, .string ⟨#[]⟩, .string ⟨#[]⟩])
    (first | (with_reducible assumption) | (simp [go_sem, *]; done))
    (first | (go_at_call 7; refine (trim_nil _).mono ?_; rintro e z ⟨rfl, rfl⟩))
  all_goals (go_wp2; go_ret; refine ⟨rfl, ?_⟩; repeat (first | (with_reducible exact HBWC.out) | (with_reducible refine Below.drew ?_) | (refine Below.setCell (p := ⟨g12, 17, none⟩) ?_ hgw12 _) | (refine Below.setCell (p := ⟨g12, 18, none⟩) ?_ hgw12 _)))

set_option maxRecDepth 100000 in
set_option maxHeartbeats 8000000 in
theorem law_back331 (n : Int) (l0 l1 l2 l3 l4 l5 l6 l7 l8 l9 l10 l11 l12 l13 l14 l15 : Int) (s t : ByteArray) (w : World) (h0 : 0 ≤ n) (h1 : n ≤ 255) (hs : ¬ 2147483647 < s.size) (ht : ¬ 2147483647 < t.size) (hr : n % 3 = 1) (a9 : 0 ≤ l9) (b9 : l9 ≤ 4294967295) (a10 : 0 ≤ l10) (b10 : l10 ≤ 4294967295) :
    Calls Try.prog 3 #[.int .u8 n, .agg #[.int .u32 l0, .int .u32 l1, .int .u32 l2, .int .u32 l3, .int .u32 l4, .int .u32 l5, .int .u32 l6, .int .u32 l7, .int .u32 l8, .int .u32 l9, .int .u32 l10, .int .u32 l11, .int .u32 l12, .int .u32 l13, .int .u32 l14, .int .u32 l15], .string s, .string t] w fun e w' => e = .returned (.bool true) ∧ Below w.heap.size w w' := by
  have HR := Lib.hid hr
  clear hr
  go_enter Try.func3, Try.ntmps3
  go_wp2_with fail
  refine (of331_any n l0 l1 l2 l3 l4 l5 l6 l7 l8 l9 l10 l11 l12 l13 l14 l15 s t _ h0 h1 HR.out a9 b9 a10 b10).mono ?_
  rintro e w1 ⟨rfl, hb1⟩
  have hb1w : Below w.heap.size w w1 := ((Below.refl _ _).alloc (Nat.le_refl _) _).trans (hb1.mono (by simp))
  have HB1 := Lib.hid hb1w
  clear hb1 hb1w
  go_upto_region 4 with (fail)
  obtain ⟨g9, hg9⟩ : ∃ g, g = w1.heap.size := ⟨_, rfl⟩
  obtain ⟨WB, hWB⟩ : ∃ W, W = w1.alloc (.cells #[.int .i64 331, .int .i64 512, .int .i64 (m8 l0), .int .i64 (m16 l1), .int .i64 (m8 l2), .int .i64 (m16 l3), .int .i64 (m16 l4), .int .i64 (m8 l5), .int .i64 (m16 l6), .int .i64 (m16 l7), .int .i64 (m16 l8), .int .i64 l9, .int .i64 l10, .int .i64 0, .int .i64 0, .int .i64 0, .int .i64 0, .string ⟨#[]⟩, .string ⟨#[]⟩] 25) := ⟨_, rfl⟩
  rw [← hWB, ← hg9]
  have hgb : blkD WB g9 = #[.int .i64 331, .int .i64 512, .int .i64 (m8 l0), .int .i64 (m16 l1), .int .i64 (m8 l2), .int .i64 (m16 l3), .int .i64 (m16 l4), .int .i64 (m8 l5), .int .i64 (m16 l6), .int .i64 (m16 l7), .int .i64 (m16 l8), .int .i64 l9, .int .i64 l10, .int .i64 0, .int .i64 0, .int .i64 0, .int .i64 0, .string ⟨#[]⟩, .string ⟨#[]⟩] := by rw [hWB]; exact blkD_alloc_at _ _ _ _ hg9
  have hgl : g9 < WB.heap.size := by rw [hWB, hg9]; simp
  have hgw : w.heap.size ≤ g9 := by rw [hg9]; exact HB1.out.size
  have hbw : Below w.heap.size w WB := by rw [hWB]; exact HB1.out.alloc HB1.out.size _
  have hz9 : (blkD WB g9).size = 19 := by rw [hgb]; rfl
  have c0 : WB.cell? ⟨g9, 0, none⟩ = some (.int .i64 331) := by rw [cell_blkD 0 (by rw [hz9]; omega), hgb]; rfl
  have HGB := Lib.hid hgb
  have HBW := Lib.hid hbw
  clear hbw hWB hg9 hz9
  go_wp2_with fail
  refine (bb331_any 512 (m8 l0) (m16 l1) (m8 l2) (m16 l3) (m16 l4) (m8 l5) (m16 l6) (m16 l7) (m16 l8) l9 l10 0 0 0 0 ⟨#[]⟩ ⟨#[]⟩ _ (by omega) (by omega) (m8_le l0).1 (m8_le l0).2 (m16_le l1).1 (m16_le l1).2 (m8_le l2).1 (m8_le l2).2 (m16_le l3).1 (m16_le l3).2 (m16_le l4).1 (m16_le l4).2 (m8_le l5).1 (m8_le l5).2 (m16_le l6).1 (m16_le l6).2 (m16_le l7).1 (m16_le l7).2 (m16_le l8).1 (m16_le l8).2 (by omega) (by omega) (by omega) (by omega) (by omega) (by omega) (by omega) (by omega) (by omega) (by omega) (by omega) (by omega)).mono ?_
  rintro e w2 ⟨rfl, hb2⟩
  have hg2 : blkD w2 g9 = #[.int .i64 331, .int .i64 512, .int .i64 (m8 l0), .int .i64 (m16 l1), .int .i64 (m8 l2), .int .i64 (m16 l3), .int .i64 (m16 l4), .int .i64 (m8 l5), .int .i64 (m16 l6), .int .i64 (m16 l7), .int .i64 (m16 l8), .int .i64 l9, .int .i64 l10, .int .i64 0, .int .i64 0, .int .i64 0, .int .i64 0, .string ⟨#[]⟩, .string ⟨#[]⟩] := (bblk hb2 g9 hgl).trans HGB.out
  have d0 : w2.cell? ⟨g9, 0, none⟩ = some (.int .i64 331) := by rw [cell_blkD 0 (by rw [hg2]; simp), hg2]; rfl
  have hgl2 : g9 < w2.heap.size := Nat.lt_of_lt_of_le hgl hb2.size
  have hbw2 : Below w.heap.size w w2 := HBW.out.trans (hb2.mono HBW.out.size)
  have HG2 := Lib.hid hg2
  have HBW2 := Lib.hid hbw2
  clear hg2 hbw2 hb2 hgb c0
  go_wp2_with fail
  refine (rb331_any (m8 l0) (m16 l1) (m8 l2) (m16 l3) (m16 l4) (m8 l5) (m16 l6) (m16 l7) (m16 l8) l9 l10 _ (m8_le l0).1 (m8_le l0).2 (m16_le l1).1 (m16_le l1).2 (m8_le l2).1 (m8_le l2).2 (m16_le l3).1 (m16_le l3).2 (m16_le l4).1 (m16_le l4).2 (m8_le l5).1 (m8_le l5).2 (m16_le l6).1 (m16_le l6).2 (m16_le l7).1 (m16_le l7).2 (m16_le l8).1 (m16_le l8).2 (by omega) (by omega) (by omega) (by omega)).mono ?_
  rintro e w3 ⟨rfl, hb3⟩
  have hg3 : blkD w3 g9 = #[.int .i64 331, .int .i64 512, .int .i64 (m8 l0), .int .i64 (m16 l1), .int .i64 (m8 l2), .int .i64 (m16 l3), .int .i64 (m16 l4), .int .i64 (m8 l5), .int .i64 (m16 l6), .int .i64 (m16 l7), .int .i64 (m16 l8), .int .i64 l9, .int .i64 l10, .int .i64 0, .int .i64 0, .int .i64 0, .int .i64 0, .string ⟨#[]⟩, .string ⟨#[]⟩] := (bblk hb3 g9 hgl2).trans HG2.out
  have hgl3 : g9 < w3.heap.size := Nat.lt_of_lt_of_le hgl2 hb3.size
  have hbw3 : Below w.heap.size w w3 := HBW2.out.trans (hb3.mono HBW2.out.size)
  have HG3 := Lib.hid hg3
  have HBW3 := Lib.hid hbw3
  clear hg3 hbw3 hb3 d0
  go_upto_region 8 with (fail)
  obtain ⟨g12, hg12⟩ : ∃ g, g = w3.heap.size := ⟨_, rfl⟩
  obtain ⟨WC, hWC⟩ : ∃ W, W = w3.alloc (.cells #[.int .i64 331, .int .i64 512, .int .i64 (m8 l0), .int .i64 (m16 l1), .int .i64 (m8 l2), .int .i64 (m16 l3), .int .i64 (m16 l4), .int .i64 (m8 l5), .int .i64 (m16 l6), .int .i64 (m16 l7), .int .i64 (m16 l8), .int .i64 l9, .int .i64 l10, .int .i64 0, .int .i64 0, .int .i64 0, .int .i64 0, .string ⟨#[]⟩, .string ⟨#[]⟩] 25) := ⟨_, rfl⟩
  rw [← hWC, ← hg12]
  have hgc : blkD WC g12 = #[.int .i64 331, .int .i64 512, .int .i64 (m8 l0), .int .i64 (m16 l1), .int .i64 (m8 l2), .int .i64 (m16 l3), .int .i64 (m16 l4), .int .i64 (m8 l5), .int .i64 (m16 l6), .int .i64 (m16 l7), .int .i64 (m16 l8), .int .i64 l9, .int .i64 l10, .int .i64 0, .int .i64 0, .int .i64 0, .int .i64 0, .string ⟨#[]⟩, .string ⟨#[]⟩] := by rw [hWC]; exact blkD_alloc_at _ _ _ _ hg12
  have hgc9 : blkD WC g9 = #[.int .i64 331, .int .i64 512, .int .i64 (m8 l0), .int .i64 (m16 l1), .int .i64 (m8 l2), .int .i64 (m16 l3), .int .i64 (m16 l4), .int .i64 (m8 l5), .int .i64 (m16 l6), .int .i64 (m16 l7), .int .i64 (m16 l8), .int .i64 l9, .int .i64 l10, .int .i64 0, .int .i64 0, .int .i64 0, .int .i64 0, .string ⟨#[]⟩, .string ⟨#[]⟩] := by rw [hWC]; exact (bblk ((Below.refl _ _).alloc (Nat.le_refl _) _) g9 hgl3).trans HG3.out
  have hne : ¬ g12 = g9 := by omega
  have hne' : ¬ g9 = g12 := by omega
  have hgw12 : w.heap.size ≤ g12 := by rw [hg12]; exact HBW3.out.size
  have hbwc : Below w.heap.size w WC := by rw [hWC]; exact HBW3.out.alloc HBW3.out.size _
  have HBWC := Lib.hid hbwc
  clear hbwc hWC hg12
  go_region_held3 (fun z => blkD z g12 = #[.int .i64 331, .int .i64 512, .int .i64 (m8 l0), .int .i64 (m16 l1), .int .i64 (m8 l2), .int .i64 (m16 l3), .int .i64 (m16 l4), .int .i64 (m8 l5), .int .i64 (m16 l6), .int .i64 (m16 l7), .int .i64 (m16 l8), .int .i64 l9, .int .i64 l10, .int .i64 0, .int .i64 0, .int .i64 0, .int .i64 0, .string ⟨#[]⟩, .string ⟨#[]⟩] ∧ blkD z g9 = #[.int .i64 331, .int .i64 512, .int .i64 (m8 l0), .int .i64 (m16 l1), .int .i64 (m8 l2), .int .i64 (m16 l3), .int .i64 (m16 l4), .int .i64 (m8 l5), .int .i64 (m16 l6), .int .i64 (m16 l7), .int .i64 (m16 l8), .int .i64 l9, .int .i64 l10, .int .i64 0, .int .i64 0, .int .i64 0, .int .i64 0, .string ⟨#[]⟩, .string ⟨#[]⟩])
    (first | (with_reducible assumption) | (simp [go_sem, *]; done))
    (first | (go_at_call 7; refine (trim_nil _).mono ?_; rintro e z ⟨rfl, rfl⟩))
  all_goals (go_wp2; go_ret; refine ⟨rfl, ?_⟩; repeat (first | (with_reducible exact HBWC.out) | (with_reducible refine Below.drew ?_) | (refine Below.setCell (p := ⟨g12, 17, none⟩) ?_ hgw12 _) | (refine Below.setCell (p := ⟨g12, 18, none⟩) ?_ hgw12 _)))

set_option maxRecDepth 100000 in
set_option maxHeartbeats 8000000 in
theorem law_back40 (n : Int) (l0 l1 l2 l3 l4 l5 l6 l7 l8 l9 l10 l11 l12 l13 l14 l15 : Int) (s t : ByteArray) (w : World) (h0 : 0 ≤ n) (h1 : n ≤ 255) (hs : ¬ 2147483647 < s.size) (ht : ¬ 2147483647 < t.size) (hr : n % 3 = 2) (a9 : 0 ≤ l9) (b9 : l9 ≤ 4294967295) (a10 : 0 ≤ l10) (b10 : l10 ≤ 4294967295) (a14 : 0 ≤ l14) (b14 : l14 ≤ 4294967295) :
    Calls Try.prog 3 #[.int .u8 n, .agg #[.int .u32 l0, .int .u32 l1, .int .u32 l2, .int .u32 l3, .int .u32 l4, .int .u32 l5, .int .u32 l6, .int .u32 l7, .int .u32 l8, .int .u32 l9, .int .u32 l10, .int .u32 l11, .int .u32 l12, .int .u32 l13, .int .u32 l14, .int .u32 l15], .string s, .string t] w fun e w' => e = .returned (.bool true) ∧ Below w.heap.size w w' := by
  have HR := Lib.hid hr
  clear hr
  go_enter Try.func3, Try.ntmps3
  go_wp2_with fail
  refine (of40_any n l0 l1 l2 l3 l4 l5 l6 l7 l8 l9 l10 l11 l12 l13 l14 l15 s t _ h0 h1 hs ht HR.out a9 b9 a10 b10 a14 b14).mono ?_
  rintro e w1 ⟨sig, ts, us, rfl, ha, hu, hta, hua, hb1⟩
  have hb1w : Below w.heap.size w w1 := ((Below.refl _ _).alloc (Nat.le_refl _) _).trans (hb1.mono (by simp))
  have HB1 := Lib.hid hb1w
  clear hb1 hb1w
  have ha11 := ha.1.pad 11
  have hu8 := hu.1.pad 8
  obtain ⟨t0, t1, t2, t3, t4, t5, t6, t7, t8, t9, t10, hpt⟩ := list11 (padL_length hta)
  obtain ⟨u0, u1, u2, u3, u4, u5, u6, u7, hpu⟩ := list8 (padL_length hua)
  rw [hpt] at ha11
  rw [hpu] at hu8
  have e0 := ha11.byte (x := t0) (by simp)
  have e1 := ha11.byte (x := t1) (by simp)
  have e2 := ha11.byte (x := t2) (by simp)
  have e3 := ha11.byte (x := t3) (by simp)
  have e4 := ha11.byte (x := t4) (by simp)
  have e5 := ha11.byte (x := t5) (by simp)
  have e6 := ha11.byte (x := t6) (by simp)
  have e7 := ha11.byte (x := t7) (by simp)
  have e8 := ha11.byte (x := t8) (by simp)
  have e9 := ha11.byte (x := t9) (by simp)
  have e10 := ha11.byte (x := t10) (by simp)
  have f0 := hu8.byte (x := u0) (by simp)
  have f1 := hu8.byte (x := u1) (by simp)
  have f2 := hu8.byte (x := u2) (by simp)
  have f3 := hu8.byte (x := u3) (by simp)
  have f4 := hu8.byte (x := u4) (by simp)
  have f5 := hu8.byte (x := u5) (by simp)
  have f6 := hu8.byte (x := u6) (by simp)
  have f7 := hu8.byte (x := u7) (by simp)
  clear ha11 hu8
  have HA := Lib.hid ha
  have HU := Lib.hid hu
  have HT := Lib.hid hpt
  have HP := Lib.hid hpu
  have HE := Lib.hid (And.intro hta hua)
  have E0 := Lib.hid e0
  have E1 := Lib.hid e1
  have E2 := Lib.hid e2
  have E3 := Lib.hid e3
  have E4 := Lib.hid e4
  have E5 := Lib.hid e5
  have E6 := Lib.hid e6
  have E7 := Lib.hid e7
  have E8 := Lib.hid e8
  have E9 := Lib.hid e9
  have E10 := Lib.hid e10
  have F0 := Lib.hid f0
  have F1 := Lib.hid f1
  have F2 := Lib.hid f2
  have F3 := Lib.hid f3
  have F4 := Lib.hid f4
  have F5 := Lib.hid f5
  have F6 := Lib.hid f6
  have F7 := Lib.hid f7
  clear ha hu hpt hpu hta hua e0 e1 e2 e3 e4 e5 e6 e7 e8 e9 e10 f0 f1 f2 f3 f4 f5 f6 f7
  go_upto_region 4 with (fail)
  obtain ⟨g9, hg9⟩ : ∃ g, g = w1.heap.size := ⟨_, rfl⟩
  obtain ⟨WB, hWB⟩ : ∃ W, W = w1.alloc (.cells #[.int .i64 40, .int .i64 512, .int .i64 (m8 l0), .int .i64 (m16 l1), .int .i64 (m8 l2), .int .i64 (m16 l3), .int .i64 (m16 l4), .int .i64 (m8 l5), .int .i64 (m16 l6), .int .i64 (m16 l7), .int .i64 (m16 l8), .int .i64 l9, .int .i64 l10, .int .i64 (m8 l11), .int .i64 (m8 l12), .int .i64 sig, .int .i64 l14, .string (strOfNums ts), .string (strOfNums us)] 25) := ⟨_, rfl⟩
  rw [← hWB, ← hg9]
  have hgb : blkD WB g9 = #[.int .i64 40, .int .i64 512, .int .i64 (m8 l0), .int .i64 (m16 l1), .int .i64 (m8 l2), .int .i64 (m16 l3), .int .i64 (m16 l4), .int .i64 (m8 l5), .int .i64 (m16 l6), .int .i64 (m16 l7), .int .i64 (m16 l8), .int .i64 l9, .int .i64 l10, .int .i64 (m8 l11), .int .i64 (m8 l12), .int .i64 sig, .int .i64 l14, .string (strOfNums ts), .string (strOfNums us)] := by rw [hWB]; exact blkD_alloc_at _ _ _ _ hg9
  have hgl : g9 < WB.heap.size := by rw [hWB, hg9]; simp
  have hgw : w.heap.size ≤ g9 := by rw [hg9]; exact HB1.out.size
  have hbw : Below w.heap.size w WB := by rw [hWB]; exact HB1.out.alloc HB1.out.size _
  have hz9 : (blkD WB g9).size = 19 := by rw [hgb]; rfl
  have c0 : WB.cell? ⟨g9, 0, none⟩ = some (.int .i64 40) := by rw [cell_blkD 0 (by rw [hz9]; omega), hgb]; rfl
  have c15 : WB.cell? ⟨g9, 15, none⟩ = some (.int .i64 sig) := by rw [cell_blkD 15 (by rw [hz9]; omega), hgb]; rfl
  have f15 : WB.frozen? ⟨g9, 15, none⟩ = false := frozen_blkD 15 (by rw [hz9]; omega)
  have HBW0 := Lib.hid hbw
  have HGB0 := Lib.hid hgb
  clear hbw hWB hg9 hz9 hgb
  go_upto_region 6 with (fail)
  obtain ⟨WD, hWD⟩ : ∃ W, W = WB.setCell ⟨g9, 15, none⟩ (.int .i64 41) := ⟨_, rfl⟩
  rw [← hWD]
  have hgb : blkD WD g9 = #[.int .i64 40, .int .i64 512, .int .i64 (m8 l0), .int .i64 (m16 l1), .int .i64 (m8 l2), .int .i64 (m16 l3), .int .i64 (m16 l4), .int .i64 (m8 l5), .int .i64 (m16 l6), .int .i64 (m16 l7), .int .i64 (m16 l8), .int .i64 l9, .int .i64 l10, .int .i64 (m8 l11), .int .i64 (m8 l12), .int .i64 41, .int .i64 l14, .string (strOfNums ts), .string (strOfNums us)] := by rw [hWD, blkD_setCell_same, HGB0.out]; rfl
  have hbw : Below w.heap.size w WD := by rw [hWD]; exact HBW0.out.setCell (p := ⟨g9, 15, none⟩) hgw _
  have hglD : g9 < WD.heap.size := by rw [hWD]; simpa using hgl
  clear c0 c15 f15
  have c0 : WD.cell? ⟨g9, 0, none⟩ = some (.int .i64 40) := by rw [cell_blkD 0 (by rw [hgb]; simp), hgb]; rfl
  have HGB := Lib.hid hgb
  have HBW := Lib.hid hbw
  clear hbw hWD
  go_wp2_with fail
  refine (bb40l_any 512 (m8 l0) (m16 l1) (m8 l2) (m16 l3) (m16 l4) (m8 l5) (m16 l6) (m16 l7) (m16 l8) l9 l10 (m8 l11) (m8 l12) l14 t0 t1 t2 t3 t4 t5 t6 t7 t8 t9 t10 u0 u1 u2 u3 u4 u5 u6 u7 ts us _ HA.out.1 HU.out.1 HE.out.1 HE.out.2 HT.out HP.out E0.out E1.out E2.out E3.out E4.out E5.out E6.out E7.out E8.out E9.out E10.out F0.out F1.out F2.out F3.out F4.out F5.out F6.out F7.out (by omega) (by omega) (m8_le l0).1 (m8_le l0).2 (m16_le l1).1 (m16_le l1).2 (m8_le l2).1 (m8_le l2).2 (m16_le l3).1 (m16_le l3).2 (m16_le l4).1 (m16_le l4).2 (m8_le l5).1 (m8_le l5).2 (m16_le l6).1 (m16_le l6).2 (m16_le l7).1 (m16_le l7).2 (m16_le l8).1 (m16_le l8).2 (by omega) (by omega) (by omega) (by omega) (m8_le l11).1 (m8_le l11).2 (m8_le l12).1 (m8_le l12).2 (by omega) (by omega)).mono ?_
  rintro e w2 ⟨rfl, hb2⟩
  have hg2 : blkD w2 g9 = #[.int .i64 40, .int .i64 512, .int .i64 (m8 l0), .int .i64 (m16 l1), .int .i64 (m8 l2), .int .i64 (m16 l3), .int .i64 (m16 l4), .int .i64 (m8 l5), .int .i64 (m16 l6), .int .i64 (m16 l7), .int .i64 (m16 l8), .int .i64 l9, .int .i64 l10, .int .i64 (m8 l11), .int .i64 (m8 l12), .int .i64 41, .int .i64 l14, .string (strOfNums ts), .string (strOfNums us)] := (bblk hb2 g9 hglD).trans HGB.out
  have d0 : w2.cell? ⟨g9, 0, none⟩ = some (.int .i64 40) := by rw [cell_blkD 0 (by rw [hg2]; simp), hg2]; rfl
  have hgl2 : g9 < w2.heap.size := Nat.lt_of_lt_of_le hglD hb2.size
  have hbw2 : Below w.heap.size w w2 := HBW.out.trans (hb2.mono HBW.out.size)
  have HG2 := Lib.hid hg2
  have HBW2 := Lib.hid hbw2
  clear hg2 hbw2 hb2 hgb c0
  go_wp2_with fail
  refine (rb40_any (m8 l0) (m16 l1) (m8 l2) (m16 l3) (m16 l4) (m8 l5) (m16 l6) (m16 l7) (m16 l8) l9 l10 (m8 l11) (m8 l12) l14 t0 t1 t2 t3 t4 t5 t6 t7 t8 t9 t10 u0 u1 u2 u3 u4 u5 u6 u7 ts us HA.out HU.out HT.out HP.out E0.out E1.out E2.out E3.out E4.out E5.out E6.out E7.out E8.out E9.out E10.out F0.out F1.out F2.out F3.out F4.out F5.out F6.out F7.out _ (m8_le l0).1 (m8_le l0).2 (m16_le l1).1 (m16_le l1).2 (m8_le l2).1 (m8_le l2).2 (m16_le l3).1 (m16_le l3).2 (m16_le l4).1 (m16_le l4).2 (m8_le l5).1 (m8_le l5).2 (m16_le l6).1 (m16_le l6).2 (m16_le l7).1 (m16_le l7).2 (m16_le l8).1 (m16_le l8).2 (by omega) (by omega) (by omega) (by omega) (m8_le l11).1 (m8_le l11).2 (m8_le l12).1 (m8_le l12).2 (by omega) (by omega)).mono ?_
  rintro e w3 ⟨rfl, hb3⟩
  have hg3 : blkD w3 g9 = #[.int .i64 40, .int .i64 512, .int .i64 (m8 l0), .int .i64 (m16 l1), .int .i64 (m8 l2), .int .i64 (m16 l3), .int .i64 (m16 l4), .int .i64 (m8 l5), .int .i64 (m16 l6), .int .i64 (m16 l7), .int .i64 (m16 l8), .int .i64 l9, .int .i64 l10, .int .i64 (m8 l11), .int .i64 (m8 l12), .int .i64 41, .int .i64 l14, .string (strOfNums ts), .string (strOfNums us)] := (bblk hb3 g9 hgl2).trans HG2.out
  have hgl3 : g9 < w3.heap.size := Nat.lt_of_lt_of_le hgl2 hb3.size
  have hbw3 : Below w.heap.size w w3 := HBW2.out.trans (hb3.mono HBW2.out.size)
  have HG3 := Lib.hid hg3
  have HBW3 := Lib.hid hbw3
  clear hg3 hbw3 hb3 d0
  go_upto_region 8 with (fail)
  obtain ⟨g12, hg12⟩ : ∃ g, g = w3.heap.size := ⟨_, rfl⟩
  obtain ⟨WC, hWC⟩ : ∃ W, W = w3.alloc (.cells #[.int .i64 40, .int .i64 512, .int .i64 (m8 l0), .int .i64 (m16 l1), .int .i64 (m8 l2), .int .i64 (m16 l3), .int .i64 (m16 l4), .int .i64 (m8 l5), .int .i64 (m16 l6), .int .i64 (m16 l7), .int .i64 (m16 l8), .int .i64 l9, .int .i64 l10, .int .i64 (m8 l11), .int .i64 (m8 l12), .int .i64 41, .int .i64 l14, .string (strOfNums ts), .string (strOfNums us)] 25) := ⟨_, rfl⟩
  rw [← hWC, ← hg12]
  have hgc : blkD WC g12 = #[.int .i64 40, .int .i64 512, .int .i64 (m8 l0), .int .i64 (m16 l1), .int .i64 (m8 l2), .int .i64 (m16 l3), .int .i64 (m16 l4), .int .i64 (m8 l5), .int .i64 (m16 l6), .int .i64 (m16 l7), .int .i64 (m16 l8), .int .i64 l9, .int .i64 l10, .int .i64 (m8 l11), .int .i64 (m8 l12), .int .i64 41, .int .i64 l14, .string (strOfNums ts), .string (strOfNums us)] := by rw [hWC]; exact blkD_alloc_at _ _ _ _ hg12
  have hgc9 : blkD WC g9 = #[.int .i64 40, .int .i64 512, .int .i64 (m8 l0), .int .i64 (m16 l1), .int .i64 (m8 l2), .int .i64 (m16 l3), .int .i64 (m16 l4), .int .i64 (m8 l5), .int .i64 (m16 l6), .int .i64 (m16 l7), .int .i64 (m16 l8), .int .i64 l9, .int .i64 l10, .int .i64 (m8 l11), .int .i64 (m8 l12), .int .i64 41, .int .i64 l14, .string (strOfNums ts), .string (strOfNums us)] := by rw [hWC]; exact (bblk ((Below.refl _ _).alloc (Nat.le_refl _) _) g9 hgl3).trans HG3.out
  have hne : ¬ g12 = g9 := by omega
  have hne' : ¬ g9 = g12 := by omega
  have hgw12 : w.heap.size ≤ g12 := by rw [hg12]; exact HBW3.out.size
  have hbwc : Below w.heap.size w WC := by rw [hWC]; exact HBW3.out.alloc HBW3.out.size _
  have HBWC := Lib.hid hbwc
  clear hbwc hWC hg12
  have tr1 : ∀ z, Calls Try.prog 7 #[.string (strOfNums ts)] z fun e z' => e = .returned (.string (strOfNums ts)) ∧ z = z' := fun z => trim_txt ts z HA.out (by have := HE.out; omega)
  have tr2 : ∀ z, Calls Try.prog 7 #[.string (strOfNums us)] z fun e z' => e = .returned (.string (strOfNums us)) ∧ z = z' := fun z => trim_txt us z HU.out (by have := HE.out; omega)
  obtain ⟨TS, hTS⟩ : ∃ TS, TS = strOfNums ts := ⟨_, rfl⟩
  obtain ⟨US, hUS⟩ : ∃ US, US = strOfNums us := ⟨_, rfl⟩
  rw [← hTS] at tr1 hgc hgc9
  rw [← hUS] at tr2 hgc hgc9
  have TR1 := Lib.hid tr1
  have TR2 := Lib.hid tr2
  clear tr1 tr2 hTS hUS
  go_region_held3 (fun z => blkD z g12 = #[.int .i64 40, .int .i64 512, .int .i64 (m8 l0), .int .i64 (m16 l1), .int .i64 (m8 l2), .int .i64 (m16 l3), .int .i64 (m16 l4), .int .i64 (m8 l5), .int .i64 (m16 l6), .int .i64 (m16 l7), .int .i64 (m16 l8), .int .i64 l9, .int .i64 l10, .int .i64 (m8 l11), .int .i64 (m8 l12), .int .i64 41, .int .i64 l14, .string TS, .string US] ∧ blkD z g9 = #[.int .i64 40, .int .i64 512, .int .i64 (m8 l0), .int .i64 (m16 l1), .int .i64 (m8 l2), .int .i64 (m16 l3), .int .i64 (m16 l4), .int .i64 (m8 l5), .int .i64 (m16 l6), .int .i64 (m16 l7), .int .i64 (m16 l8), .int .i64 l9, .int .i64 l10, .int .i64 (m8 l11), .int .i64 (m8 l12), .int .i64 41, .int .i64 l14, .string TS, .string US])
    (first | (with_reducible assumption) | (simp [go_sem, *]; done))
    (first | (go_at_call 7; first | (with_reducible refine (TR1.out _).mono ?_; rintro e z ⟨rfl, rfl⟩) | (with_reducible refine (TR2.out _).mono ?_; rintro e z ⟨rfl, rfl⟩)))
  all_goals (go_wp2; go_ret; refine ⟨rfl, ?_⟩; repeat (first | (with_reducible exact HBWC.out) | (with_reducible refine Below.drew ?_) | (refine Below.setCell (p := ⟨g12, 17, none⟩) ?_ hgw12 _) | (refine Below.setCell (p := ⟨g12, 18, none⟩) ?_ hgw12 _)))
end Go.Proofs.Yteklgajjclldkaa
