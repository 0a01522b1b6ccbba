/- Walk of the law FnBpbBytes. -/
import Derived.Test.YtbageocnkbghnaaOF
import Derived.Test.YtbageocnkbghnaaIB
import Derived.Test.YtbageocnkbghnaaSB
namespace Go.Proofs.Ytbageocnkbghnaa
open Go.RowKit
set_option linter.unusedVariables false

theorem list11 {xs : List Int} (h : xs.length = 11) : ∃ t0 t1 t2 t3 t4 t5 t6 t7 t8 t9 t10, xs = [t0, t1, t2, t3, t4, t5, t6, t7, t8, t9, t10] := by
  match xs, h with
  | [t0, t1, t2, t3, t4, t5, t6, t7, t8, t9, t10], _ => exact ⟨t0, t1, t2, t3, t4, t5, t6, t7, t8, t9, t10, rfl⟩
theorem list8 {xs : List Int} (h : xs.length = 8) : ∃ u0 u1 u2 u3 u4 u5 u6 u7, xs = [u0, u1, u2, u3, u4, u5, u6, u7] := by
  match xs, h with
  | [u0, u1, u2, u3, u4, u5, u6, u7], _ => exact ⟨u0, u1, u2, u3, u4, u5, u6, u7, rfl⟩
theorem Asc.byte {xs : List Int} (h : Asc xs) {x : Int} (hx : x ∈ xs) : inByte x = true := by
  have := h x hx
  simp only [inByte, decide_eq_true_eq]
  omega

theorem law_bytes_big (n : Int) (v : Value) (s t : ByteArray) (w : World) (h : 2147483647 < s.size ∨ 2147483647 < t.size) (ls : List Int) (hv : v = .agg (ls.map (Value.int .u32)).toArray) :
    Calls Try.prog 3 #[.int .u8 n, v, .string s, .string t] w fun e w' => e = .returned (.bool true) ∧ Below w.heap.size w w' := by
  subst hv
  by_cases h1 : 2147483647 < s.size
  · go_enter Try.func3, Try.ntmps3
    go_wp2_with fail
    go_ret
    exact ⟨rfl, (Below.refl _ _).alloc (Nat.le_refl _) _⟩
  · have h2 : 2147483647 < t.size := by omega
    go_enter Try.func3, Try.ntmps3
    go_wp2_with fail
    go_ret
    exact ⟨rfl, (Below.refl _ _).alloc (Nat.le_refl _) _⟩

set_option maxRecDepth 100000 in
set_option maxHeartbeats 4000000 in
theorem law_bytes20 (n : Int) (l0 l1 l2 l3 l4 l5 l6 l7 l8 l9 l10 l11 l12 l13 l14 l15 : Int) (s t : ByteArray) (w : World) (h0 : 0 ≤ n) (h1 : n ≤ 255) (hs : ¬ 2147483647 < s.size) (ht : ¬ 2147483647 < t.size) (hr : n % 3 = 0) :
    Calls Try.prog 3 #[.int .u8 n, .agg #[.int .u32 l0, .int .u32 l1, .int .u32 l2, .int .u32 l3, .int .u32 l4, .int .u32 l5, .int .u32 l6, .int .u32 l7, .int .u32 l8, .int .u32 l9, .int .u32 l10, .int .u32 l11, .int .u32 l12, .int .u32 l13, .int .u32 l14, .int .u32 l15], .string s, .string t] w fun e w' => e = .returned (.bool true) ∧ Below w.heap.size w w' := by
  have HR := Lib.hid hr
  clear hr
  go_enter Try.func3, Try.ntmps3
  go_wp2_with fail
  refine (of20_any n l0 l1 l2 l3 l4 l5 l6 l7 l8 l9 l10 l11 l12 l13 l14 l15 s t _ h0 h1 HR.out).mono ?_
  rintro e w1 ⟨rfl, hb1⟩
  go_wp2_with fail
  refine (bb20_any 512 (m8 l0) (m16 l1) (m8 l2) (m16 l3) (m16 l4) (m8 l5) (m16 l6) 0 0 0 0 0 0 0 0 ⟨#[]⟩ ⟨#[]⟩ _ (by omega) (by omega) (m8_le l0).1 (m8_le l0).2 (m16_le l1).1 (m16_le l1).2 (m8_le l2).1 (m8_le l2).2 (m16_le l3).1 (m16_le l3).2 (m16_le l4).1 (m16_le l4).2 (m8_le l5).1 (m8_le l5).2 (m16_le l6).1 (m16_le l6).2 (by omega) (by omega) (by omega) (by omega) (by omega) (by omega) (by omega) (by omega) (by omega) (by omega) (by omega) (by omega) (by omega) (by omega) (by omega) (by omega)).mono ?_
  rintro e w2 ⟨rfl, hb2⟩
  have hk := bblk hb2 w1.heap.size (by simp)
  rw [blkD_alloc_at _ _ _ _ rfl] at hk
  go_wp2_with fail
  refine (sbb20_any 512 (m8 l0) (m16 l1) (m8 l2) (m16 l3) (m16 l4) (m8 l5) (m16 l6) 0 0 0 0 0 0 0 0 ⟨#[]⟩ ⟨#[]⟩ _ (by omega) (by omega) (m8_le l0).1 (m8_le l0).2 (m16_le l1).1 (m16_le l1).2 (m8_le l2).1 (m8_le l2).2 (m16_le l3).1 (m16_le l3).2 (m16_le l4).1 (m16_le l4).2 (m8_le l5).1 (m8_le l5).2 (m16_le l6).1 (m16_le l6).2 (by omega) (by omega) (by omega) (by omega) (by omega) (by omega) (by omega) (by omega) (by omega) (by omega) (by omega) (by omega) (by omega) (by omega) (by omega) (by omega)).mono ?_
  rintro e w3 ⟨rfl, hb3⟩
  go_wp2_with fail
  go_ret
  have z1 := hb1.size
  have z2 := hb2.size
  simp only [World.size_alloc] at z1 z2
  have k1 : Below w.heap.size w w1 := ((Below.refl _ _).alloc (Nat.le_refl _) _).trans (hb1.mono (by simp))
  have k2 : Below w.heap.size w w2 := (k1.alloc k1.size _).trans (hb2.mono (by have := k1.size; simp; omega))
  exact ⟨rfl, k2.trans (hb3.mono k2.size)⟩

set_option maxRecDepth 100000 in
set_option maxHeartbeats 4000000 in
theorem law_bytes331 (n : Int) (l0 l1 l2 l3 l4 l5 l6 l7 l8 l9 l10 l11 l12 l13 l14 l15 : Int) (s t : ByteArray) (w : World) (h0 : 0 ≤ n) (h1 : n ≤ 255) (hs : ¬ 2147483647 < s.size) (ht : ¬ 2147483647 < t.size) (hr : n % 3 = 1) (a9 : 0 ≤ l9) (b9 : l9 ≤ 4294967295) (a10 : 0 ≤ l10) (b10 : l10 ≤ 4294967295) :
    Calls Try.prog 3 #[.int .u8 n, .agg #[.int .u32 l0, .int .u32 l1, .int .u32 l2, .int .u32 l3, .int .u32 l4, .int .u32 l5, .int .u32 l6, .int .u32 l7, .int .u32 l8, .int .u32 l9, .int .u32 l10, .int .u32 l11, .int .u32 l12, .int .u32 l13, .int .u32 l14, .int .u32 l15], .string s, .string t] w fun e w' => e = .returned (.bool true) ∧ Below w.heap.size w w' := by
  have HR := Lib.hid hr
  clear hr
  go_enter Try.func3, Try.ntmps3
  go_wp2_with fail
  refine (of331_any n l0 l1 l2 l3 l4 l5 l6 l7 l8 l9 l10 l11 l12 l13 l14 l15 s t _ h0 h1 HR.out a9 b9 a10 b10).mono ?_
  rintro e w1 ⟨rfl, hb1⟩
  go_wp2_with fail
  refine (bb331_any 512 (m8 l0) (m16 l1) (m8 l2) (m16 l3) (m16 l4) (m8 l5) (m16 l6) (m16 l7) (m16 l8) l9 l10 0 0 0 0 ⟨#[]⟩ ⟨#[]⟩ _ (by omega) (by omega) (m8_le l0).1 (m8_le l0).2 (m16_le l1).1 (m16_le l1).2 (m8_le l2).1 (m8_le l2).2 (m16_le l3).1 (m16_le l3).2 (m16_le l4).1 (m16_le l4).2 (m8_le l5).1 (m8_le l5).2 (m16_le l6).1 (m16_le l6).2 (m16_le l7).1 (m16_le l7).2 (m16_le l8).1 (m16_le l8).2 (by omega) (by omega) (by omega) (by omega) (by omega) (by omega) (by omega) (by omega) (by omega) (by omega) (by omega) (by omega)).mono ?_
  rintro e w2 ⟨rfl, hb2⟩
  have hk := bblk hb2 w1.heap.size (by simp)
  rw [blkD_alloc_at _ _ _ _ rfl] at hk
  go_wp2_with fail
  refine (sbb331_any 512 (m8 l0) (m16 l1) (m8 l2) (m16 l3) (m16 l4) (m8 l5) (m16 l6) (m16 l7) (m16 l8) l9 l10 0 0 0 0 ⟨#[]⟩ ⟨#[]⟩ _ (by omega) (by omega) (m8_le l0).1 (m8_le l0).2 (m16_le l1).1 (m16_le l1).2 (m8_le l2).1 (m8_le l2).2 (m16_le l3).1 (m16_le l3).2 (m16_le l4).1 (m16_le l4).2 (m8_le l5).1 (m8_le l5).2 (m16_le l6).1 (m16_le l6).2 (m16_le l7).1 (m16_le l7).2 (m16_le l8).1 (m16_le l8).2 (by omega) (by omega) (by omega) (by omega) (by omega) (by omega) (by omega) (by omega) (by omega) (by omega) (by omega) (by omega)).mono ?_
  rintro e w3 ⟨rfl, hb3⟩
  go_wp2_with fail
  go_ret
  have z1 := hb1.size
  have z2 := hb2.size
  simp only [World.size_alloc] at z1 z2
  have k1 : Below w.heap.size w w1 := ((Below.refl _ _).alloc (Nat.le_refl _) _).trans (hb1.mono (by simp))
  have k2 : Below w.heap.size w w2 := (k1.alloc k1.size _).trans (hb2.mono (by have := k1.size; simp; omega))
  exact ⟨rfl, k2.trans (hb3.mono k2.size)⟩

set_option maxRecDepth 100000 in
set_option maxHeartbeats 4000000 in
theorem law_bytes40s (n : Int) (l0 l1 l2 l3 l4 l5 l6 l7 l8 l9 l10 l11 l12 l13 l14 l15 : Int) (s t : ByteArray) (w : World) (h0 : 0 ≤ n) (h1 : n ≤ 255) (hs : ¬ 2147483647 < s.size) (ht : ¬ 2147483647 < t.size) (hr : n % 3 = 2) (a9 : 0 ≤ l9) (b9 : l9 ≤ 4294967295) (a10 : 0 ≤ l10) (b10 : l10 ≤ 4294967295) (a14 : 0 ≤ l14) (b14 : l14 ≤ 4294967295) (hbit : m1 l13 = 0) :
    Calls Try.prog 3 #[.int .u8 n, .agg #[.int .u32 l0, .int .u32 l1, .int .u32 l2, .int .u32 l3, .int .u32 l4, .int .u32 l5, .int .u32 l6, .int .u32 l7, .int .u32 l8, .int .u32 l9, .int .u32 l10, .int .u32 l11, .int .u32 l12, .int .u32 l13, .int .u32 l14, .int .u32 l15], .string s, .string t] w fun e w' => e = .returned (.bool true) ∧ Below w.heap.size w w' := by
  have HR := Lib.hid hr
  clear hr
  go_enter Try.func3, Try.ntmps3
  go_wp2_with fail
  have HBIT := Lib.hid hbit
  clear hbit
  refine (of40s_any n l0 l1 l2 l3 l4 l5 l6 l7 l8 l9 l10 l11 l12 l13 l14 l15 s t _ h0 h1 HR.out a9 b9 a10 b10 a14 b14 HBIT.out).mono ?_
  rintro e w1 ⟨rfl, hb1⟩
  go_wp2_with fail
  refine (bb40s_any 512 (m8 l0) (m16 l1) (m8 l2) (m16 l3) (m16 l4) (m8 l5) (m16 l6) (m16 l7) (m16 l8) l9 l10 (m8 l11) (m8 l12) l14 [] [] _ (by omega) (by omega) (m8_le l0).1 (m8_le l0).2 (m16_le l1).1 (m16_le l1).2 (m8_le l2).1 (m8_le l2).2 (m16_le l3).1 (m16_le l3).2 (m16_le l4).1 (m16_le l4).2 (m8_le l5).1 (m8_le l5).2 (m16_le l6).1 (m16_le l6).2 (m16_le l7).1 (m16_le l7).2 (m16_le l8).1 (m16_le l8).2 (by omega) (by omega) (by omega) (by omega) (m8_le l11).1 (m8_le l11).2 (m8_le l12).1 (m8_le l12).2 (by omega) (by omega)).mono ?_
  rintro e w2 ⟨rfl, hb2⟩
  have hk := bblk hb2 w1.heap.size (by simp)
  rw [blkD_alloc_at _ _ _ _ rfl] at hk
  go_wp2_with fail
  refine (sbb40s_any 512 (m8 l0) (m16 l1) (m8 l2) (m16 l3) (m16 l4) (m8 l5) (m16 l6) (m16 l7) (m16 l8) l9 l10 (m8 l11) (m8 l12) l14 [] [] _ (by omega) (by omega) (m8_le l0).1 (m8_le l0).2 (m16_le l1).1 (m16_le l1).2 (m8_le l2).1 (m8_le l2).2 (m16_le l3).1 (m16_le l3).2 (m16_le l4).1 (m16_le l4).2 (m8_le l5).1 (m8_le l5).2 (m16_le l6).1 (m16_le l6).2 (m16_le l7).1 (m16_le l7).2 (m16_le l8).1 (m16_le l8).2 (by omega) (by omega) (by omega) (by omega) (m8_le l11).1 (m8_le l11).2 (m8_le l12).1 (m8_le l12).2 (by omega) (by omega)).mono ?_
  rintro e w3 ⟨rfl, hb3⟩
  go_wp2_with fail
  go_ret
  have z1 := hb1.size
  have z2 := hb2.size
  simp only [World.size_alloc] at z1 z2
  have k1 : Below w.heap.size w w1 := ((Below.refl _ _).alloc (Nat.le_refl _) _).trans (hb1.mono (by simp))
  have k2 : Below w.heap.size w w2 := (k1.alloc k1.size _).trans (hb2.mono (by have := k1.size; simp; omega))
  exact ⟨rfl, k2.trans (hb3.mono k2.size)⟩

set_option maxRecDepth 100000 in
set_option maxHeartbeats 4000000 in
theorem law_bytes40l (n : Int) (l0 l1 l2 l3 l4 l5 l6 l7 l8 l9 l10 l11 l12 l13 l14 l15 : Int) (s t : ByteArray) (w : World) (h0 : 0 ≤ n) (h1 : n ≤ 255) (hs : ¬ 2147483647 < s.size) (ht : ¬ 2147483647 < t.size) (hr : n % 3 = 2) (a9 : 0 ≤ l9) (b9 : l9 ≤ 4294967295) (a10 : 0 ≤ l10) (b10 : l10 ≤ 4294967295) (a14 : 0 ≤ l14) (b14 : l14 ≤ 4294967295) (hbit : m1 l13 = 1) :
    Calls Try.prog 3 #[.int .u8 n, .agg #[.int .u32 l0, .int .u32 l1, .int .u32 l2, .int .u32 l3, .int .u32 l4, .int .u32 l5, .int .u32 l6, .int .u32 l7, .int .u32 l8, .int .u32 l9, .int .u32 l10, .int .u32 l11, .int .u32 l12, .int .u32 l13, .int .u32 l14, .int .u32 l15], .string s, .string t] w fun e w' => e = .returned (.bool true) ∧ Below w.heap.size w w' := by
  have HR := Lib.hid hr
  clear hr
  go_enter Try.func3, Try.ntmps3
  go_wp2_with fail
  have HBIT := Lib.hid hbit
  clear hbit
  refine (of40l_any n l0 l1 l2 l3 l4 l5 l6 l7 l8 l9 l10 l11 l12 l13 l14 l15 s t _ h0 h1 HR.out a9 b9 a10 b10 a14 b14 HBIT.out (by unfold maxLen; omega) (by unfold maxLen; omega)).mono ?_
  rintro e w1 ⟨ts, us, rfl, ha, hu, hta, hua, hb1⟩
  have ha11 := ha.pad 11
  have hu8 := hu.pad 8
  obtain ⟨t0, t1, t2, t3, t4, t5, t6, t7, t8, t9, t10, hpt⟩ := list11 (padL_length hta)
  obtain ⟨u0, u1, u2, u3, u4, u5, u6, u7, hpu⟩ := list8 (padL_length hua)
  rw [hpt] at ha11
  rw [hpu] at hu8
  have e0 := ha11.byte (x := t0) (by simp)
  have e1 := ha11.byte (x := t1) (by simp)
  have e2 := ha11.byte (x := t2) (by simp)
  have e3 := ha11.byte (x := t3) (by simp)
  have e4 := ha11.byte (x := t4) (by simp)
  have e5 := ha11.byte (x := t5) (by simp)
  have e6 := ha11.byte (x := t6) (by simp)
  have e7 := ha11.byte (x := t7) (by simp)
  have e8 := ha11.byte (x := t8) (by simp)
  have e9 := ha11.byte (x := t9) (by simp)
  have e10 := ha11.byte (x := t10) (by simp)
  have f0 := hu8.byte (x := u0) (by simp)
  have f1 := hu8.byte (x := u1) (by simp)
  have f2 := hu8.byte (x := u2) (by simp)
  have f3 := hu8.byte (x := u3) (by simp)
  have f4 := hu8.byte (x := u4) (by simp)
  have f5 := hu8.byte (x := u5) (by simp)
  have f6 := hu8.byte (x := u6) (by simp)
  have f7 := hu8.byte (x := u7) (by simp)
  clear ha11 hu8
  have HA := Lib.hid ha
  have HU := Lib.hid hu
  have HT := Lib.hid hpt
  have HP := Lib.hid hpu
  clear ha hu hpt hpu
  go_wp2_with fail
  refine (bb40l_any 512 (m8 l0) (m16 l1) (m8 l2) (m16 l3) (m16 l4) (m8 l5) (m16 l6) (m16 l7) (m16 l8) l9 l10 (m8 l11) (m8 l12) l14 t0 t1 t2 t3 t4 t5 t6 t7 t8 t9 t10 u0 u1 u2 u3 u4 u5 u6 u7 ts us _ HA.out HU.out hta hua HT.out HP.out e0 e1 e2 e3 e4 e5 e6 e7 e8 e9 e10 f0 f1 f2 f3 f4 f5 f6 f7 (by omega) (by omega) (m8_le l0).1 (m8_le l0).2 (m16_le l1).1 (m16_le l1).2 (m8_le l2).1 (m8_le l2).2 (m16_le l3).1 (m16_le l3).2 (m16_le l4).1 (m16_le l4).2 (m8_le l5).1 (m8_le l5).2 (m16_le l6).1 (m16_le l6).2 (m16_le l7).1 (m16_le l7).2 (m16_le l8).1 (m16_le l8).2 (by omega) (by omega) (by omega) (by omega) (m8_le l11).1 (m8_le l11).2 (m8_le l12).1 (m8_le l12).2 (by omega) (by omega)).mono ?_
  rintro e w2 ⟨rfl, hb2⟩
  have hk := bblk hb2 w1.heap.size (by simp)
  rw [blkD_alloc_at _ _ _ _ rfl] at hk
  go_wp2_with fail
  refine (sbb40l_any 512 (m8 l0) (m16 l1) (m8 l2) (m16 l3) (m16 l4) (m8 l5) (m16 l6) (m16 l7) (m16 l8) l9 l10 (m8 l11) (m8 l12) l14 t0 t1 t2 t3 t4 t5 t6 t7 t8 t9 t10 u0 u1 u2 u3 u4 u5 u6 u7 ts us _ HA.out HU.out hta hua HT.out HP.out (by omega) (by omega) (m8_le l0).1 (m8_le l0).2 (m16_le l1).1 (m16_le l1).2 (m8_le l2).1 (m8_le l2).2 (m16_le l3).1 (m16_le l3).2 (m16_le l4).1 (m16_le l4).2 (m8_le l5).1 (m8_le l5).2 (m16_le l6).1 (m16_le l6).2 (m16_le l7).1 (m16_le l7).2 (m16_le l8).1 (m16_le l8).2 (by omega) (by omega) (by omega) (by omega) (m8_le l11).1 (m8_le l11).2 (m8_le l12).1 (m8_le l12).2 (by omega) (by omega)).mono ?_
  rintro e w3 ⟨rfl, hb3⟩
  go_wp2_with fail
  go_ret
  have z1 := hb1.size
  have z2 := hb2.size
  simp only [World.size_alloc] at z1 z2
  have k1 : Below w.heap.size w w1 := ((Below.refl _ _).alloc (Nat.le_refl _) _).trans (hb1.mono (by simp))
  have k2 : Below w.heap.size w w2 := (k1.alloc k1.size _).trans (hb2.mono (by have := k1.size; simp; omega))
  exact ⟨rfl, k2.trans (hb3.mono k2.size)⟩
end Go.Proofs.Ytbageocnkbghnaa
