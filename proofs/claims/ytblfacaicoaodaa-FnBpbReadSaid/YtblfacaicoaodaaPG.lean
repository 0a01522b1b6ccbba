/- Walks of the specification's readers and of spec.BpbRead. -/
import Derived.Test.YtblfacaicoaodaaPC
namespace Go.Proofs.Ytblfacaicoaodaa
open Go.RowKit
attribute [local go_sem ↓] Go.wp_at_zero Go.wp_at_succ
set_option linter.unusedVariables false

theorem nums_get (ys : List Int) (hB : Byt ys) (i : Nat) (hi : i < ys.length) (h : i < (strOfNums ys).size) : ((((strOfNums ys)[i]'h).toNat : Nat) : Int) = p8 ys i := by
  have hbi := hB i
  unfold p8
  rw [List.getD_eq_getElem?_getD, List.getElem?_eq_getElem hi] at hbi ⊢
  simp only [Option.getD_some] at hbi ⊢
  show (((strOfNums ys).data[i]).toNat : Int) = _
  simp only [strOfNums, List.getElem_toArray, List.getElem_map, UInt8.toNat_ofNat']
  omega
theorem at_any (ys : List Int) (k : Nat) (w : World) (hB : Byt ys) (hk : k < ys.length) (hm : ys.length ≤ 1000) : Calls Try.prog 12 #[.string (strOfNums ys), .int .i64 (k : Int)] w fun e w' => e = .returned (.int .i64 (p8 ys k)) ∧ w = w' := by
  have hs : (strOfNums ys).size = ys.length := strOfNums_size ys
  have h0 : ¬ (k : Int) < 0 := by omega
  have h1 : ¬ (k : Int) ≥ ((strOfNums ys).size : Int) := by omega
  have h2 : k < (strOfNums ys).size := by omega
  have HG := Lib.hid (nums_get ys hB k hk h2)
  have HB := Lib.hid (hB.p8 k)
  obtain ⟨S, hS⟩ : ∃ S, S = strOfNums ys := ⟨_, rfl⟩
  clear hB
  rw [hs] at h1
  go_enter Try.func12, Try.ntmps12
  go_wp2
  go_ret
  refine ⟨?_, rfl⟩
  refine ret_k ?_
  first
    | exact HG.out
    | (rw [IntWalk.wrap64_in _ (by have := HG.out; have := HB.out; omega)]; exact HG.out)
theorem num16_any (ys : List Int) (k : Nat) (w : World) (hB : Byt ys) (hk : k + 1 < ys.length) (hm : ys.length ≤ 1000) : Calls Try.prog 11 #[.string (strOfNums ys), .int .i64 (k : Int)] w fun e w' => e = .returned (.int .i64 (p16 ys k)) ∧ w = w' := by
  have HB := Lib.hid hB
  have HO := Lib.hid (or_n16 (p8 ys k) (p8 ys (k + 1)) (hB k).1 (hB k).2 (hB (k + 1)).1 (hB (k + 1)).2)
  have h1 := hB.p8 (k + 1)
  clear hB
  go_enter Try.func11, Try.ntmps11
  go_wp2_with fail
  refine (at_any ys k w HB.out (by omega) hm).mono ?_
  rintro e w' ⟨rfl, rfl⟩
  go_wp2_with fail
  refine (at_any ys (k + 1) w HB.out hk hm).mono ?_
  rintro e w' ⟨rfl, rfl⟩
  go_wp2_with fail
  go_ret
  refine ⟨ret_k ?_, rfl⟩
  exact HO.out
theorem num32_any (ys : List Int) (k : Nat) (w : World) (hB : Byt ys) (hk : k + 3 < ys.length) (hm : ys.length ≤ 1000) : Calls Try.prog 13 #[.string (strOfNums ys), .int .i64 (k : Int)] w fun e w' => e = .returned (.int .i64 (p32 ys k)) ∧ w = w' := by
  have HB := Lib.hid hB
  have h0 := hB.p16 k
  have h1 := hB.p16 (k + 2)
  have HO := Lib.hid (or_n32 (p16 ys k) (p16 ys (k + 2)) h0.1 (by omega) h1.1 (by omega))
  clear hB
  go_enter Try.func13, Try.ntmps13
  go_wp2_with fail
  refine (num16_any ys k w HB.out (by omega) hm).mono ?_
  rintro e w' ⟨rfl, rfl⟩
  go_wp2_with fail
  refine (num16_any ys (k + 2) w HB.out (by omega) hm).mono ?_
  rintro e w' ⟨rfl, rfl⟩
  go_wp2_with fail
  go_ret
  refine ⟨ret_k ?_, rfl⟩
  rw [HO.out]
  unfold p16 p32
  rw [show k + 2 + 1 = k + 3 from rfl]
  omega
theorem nums_sub (ys : List Int) (o n : Nat) (h : o + n ≤ ys.length) : (strOfNums ys).extract o (o + n) = strOfNums (subL ys o n) := by
  apply ByteArray.ext
  apply Array.ext'
  simp only [ByteArray.data_extract, strOfNums, List.extract_toArray, subL]
  rw [List.extract_eq_take_drop, ← List.map_drop, ← List.map_take]
  congr 2
  omega
theorem part_any (ys : List Int) (o n : Nat) (w : World) (h : o + n ≤ ys.length) (hn : 0 < n) (ho : 0 < o) (hm : ys.length ≤ 1000) : Calls Try.prog 14 #[.string (strOfNums ys), .int .i64 (o : Int), .int .i64 (n : Int)] w fun e w' => e = .returned (.string (strOfNums (subL ys o n))) ∧ w = w' := by
  have hs : (strOfNums ys).size = ys.length := strOfNums_size ys
  have HX := Lib.hid (nums_sub ys o n h)
  have h0 : (o : Int) ≤ (ys.length : Int) := by omega
  have h1 : (o : Int) + (n : Int) ≤ (ys.length : Int) := by omega
  have h2 : (0 : Int) ≤ (o : Int) := by omega
  have h3 : (o : Int) ≤ (o : Int) + (n : Int) := by omega
  go_enter Try.func14, Try.ntmps14
  have h4 : 0 < o := ho
  have h5 : ((o : Int) + (n : Int)).toNat = o + n := by omega
  go_wp2
  go_ret
  exact ⟨by rw [← HX.out]; rfl, rfl⟩

set_option maxRecDepth 100000 in
set_option maxHeartbeats 8000000 in
theorem sbr20_any (ys : List Int) (w : World) (hB : Byt ys) (hl : ys.length = 13) (h512 : p16 ys 0 = 512) :
    Calls Try.prog 6 #[.int .i64 20, .string (strOfNums ys)] w fun e w' => e = .returned (.agg #[.int .i64 20, .int .i64 (512), .int .i64 (p8 ys 2), .int .i64 (p16 ys 3), .int .i64 (p8 ys 5), .int .i64 (p16 ys 6), .int .i64 (p16 ys 8), .int .i64 (p8 ys 10), .int .i64 (p16 ys 11), .int .i64 0, .int .i64 0, .int .i64 0, .int .i64 0, .int .i64 0, .int .i64 0, .int .i64 0, .int .i64 0, .string ⟨#[]⟩, .string ⟨#[]⟩]) ∧ Below w.heap.size w w' := by
  have HB := Lib.hid hB
  have HL := Lib.hid hl
  have H5 := Lib.hid h512
  clear h512
  clear hB hl
  go_enter Try.func6, Try.ntmps6
  go_wp2_with fail
  refine (num16_any ys 0 _ HB.out (by have := HL.out; omega) (by have := HL.out; omega)).mono ?_
  rintro e w' ⟨rfl, rfl⟩
  rw [H5.out]
  go_wp2_with fail
  refine (at_any ys 2 _ HB.out (by have := HL.out; omega) (by have := HL.out; omega)).mono ?_
  rintro e w' ⟨rfl, rfl⟩
  go_wp2_with fail
  refine (num16_any ys 3 _ HB.out (by have := HL.out; omega) (by have := HL.out; omega)).mono ?_
  rintro e w' ⟨rfl, rfl⟩
  go_wp2_with fail
  refine (at_any ys 5 _ HB.out (by have := HL.out; omega) (by have := HL.out; omega)).mono ?_
  rintro e w' ⟨rfl, rfl⟩
  go_wp2_with fail
  refine (num16_any ys 6 _ HB.out (by have := HL.out; omega) (by have := HL.out; omega)).mono ?_
  rintro e w' ⟨rfl, rfl⟩
  go_wp2_with fail
  refine (num16_any ys 8 _ HB.out (by have := HL.out; omega) (by have := HL.out; omega)).mono ?_
  rintro e w' ⟨rfl, rfl⟩
  go_wp2_with fail
  refine (at_any ys 10 _ HB.out (by have := HL.out; omega) (by have := HL.out; omega)).mono ?_
  rintro e w' ⟨rfl, rfl⟩
  go_wp2_with fail
  refine (num16_any ys 11 _ HB.out (by have := HL.out; omega) (by have := HL.out; omega)).mono ?_
  rintro e w' ⟨rfl, rfl⟩
  go_wp2_with fail
  refine bodyPost_ret (results6_blk _ _ w.heap.size #[.int .i64 20, .int .i64 (512), .int .i64 (p8 ys 2), .int .i64 (p16 ys 3), .int .i64 (p8 ys 5), .int .i64 (p16 ys 6), .int .i64 (p16 ys 8), .int .i64 (p8 ys 10), .int .i64 (p16 ys 11), .int .i64 0, .int .i64 0, .int .i64 0, .int .i64 0, .int .i64 0, .int .i64 0, .int .i64 0, .int .i64 0, .string ⟨#[]⟩, .string ⟨#[]⟩] (by rfl) (by simp [go_sem]) rfl) rfl ⟨rfl, ?_⟩
  exact ((Below.refl _ _).alloc (Nat.le_refl _) _).alloc (by simp) _

set_option maxRecDepth 100000 in
set_option maxHeartbeats 8000000 in
theorem sbr331_any (ys : List Int) (w : World) (hB : Byt ys) (hl : ys.length = 25) (h512 : p16 ys 0 = 512) :
    Calls Try.prog 6 #[.int .i64 331, .string (strOfNums ys)] w fun e w' => e = .returned (.agg #[.int .i64 331, .int .i64 (512), .int .i64 (p8 ys 2), .int .i64 (p16 ys 3), .int .i64 (p8 ys 5), .int .i64 (p16 ys 6), .int .i64 (p16 ys 8), .int .i64 (p8 ys 10), .int .i64 (p16 ys 11), .int .i64 (p16 ys 13), .int .i64 (p16 ys 15), .int .i64 (p32 ys 17), .int .i64 (p32 ys 21), .int .i64 0, .int .i64 0, .int .i64 0, .int .i64 0, .string ⟨#[]⟩, .string ⟨#[]⟩]) ∧ Below w.heap.size w w' := by
  have HB := Lib.hid hB
  have HL := Lib.hid hl
  have H5 := Lib.hid h512
  clear h512
  clear hB hl
  go_enter Try.func6, Try.ntmps6
  go_wp2_with fail
  refine (num16_any ys 0 _ HB.out (by have := HL.out; omega) (by have := HL.out; omega)).mono ?_
  rintro e w' ⟨rfl, rfl⟩
  rw [H5.out]
  go_wp2_with fail
  refine (at_any ys 2 _ HB.out (by have := HL.out; omega) (by have := HL.out; omega)).mono ?_
  rintro e w' ⟨rfl, rfl⟩
  go_wp2_with fail
  refine (num16_any ys 3 _ HB.out (by have := HL.out; omega) (by have := HL.out; omega)).mono ?_
  rintro e w' ⟨rfl, rfl⟩
  go_wp2_with fail
  refine (at_any ys 5 _ HB.out (by have := HL.out; omega) (by have := HL.out; omega)).mono ?_
  rintro e w' ⟨rfl, rfl⟩
  go_wp2_with fail
  refine (num16_any ys 6 _ HB.out (by have := HL.out; omega) (by have := HL.out; omega)).mono ?_
  rintro e w' ⟨rfl, rfl⟩
  go_wp2_with fail
  refine (num16_any ys 8 _ HB.out (by have := HL.out; omega) (by have := HL.out; omega)).mono ?_
  rintro e w' ⟨rfl, rfl⟩
  go_wp2_with fail
  refine (at_any ys 10 _ HB.out (by have := HL.out; omega) (by have := HL.out; omega)).mono ?_
  rintro e w' ⟨rfl, rfl⟩
  go_wp2_with fail
  refine (num16_any ys 11 _ HB.out (by have := HL.out; omega) (by have := HL.out; omega)).mono ?_
  rintro e w' ⟨rfl, rfl⟩
  go_wp2_with fail
  refine (num16_any ys 13 _ HB.out (by have := HL.out; omega) (by have := HL.out; omega)).mono ?_
  rintro e w' ⟨rfl, rfl⟩
  go_wp2_with fail
  refine (num16_any ys 15 _ HB.out (by have := HL.out; omega) (by have := HL.out; omega)).mono ?_
  rintro e w' ⟨rfl, rfl⟩
  go_wp2_with fail
  refine (num32_any ys 17 _ HB.out (by have := HL.out; omega) (by have := HL.out; omega)).mono ?_
  rintro e w' ⟨rfl, rfl⟩
  go_wp2_with fail
  refine (num32_any ys 21 _ HB.out (by have := HL.out; omega) (by have := HL.out; omega)).mono ?_
  rintro e w' ⟨rfl, rfl⟩
  go_wp2_with fail
  refine bodyPost_ret (results6_blk _ _ w.heap.size #[.int .i64 331, .int .i64 (512), .int .i64 (p8 ys 2), .int .i64 (p16 ys 3), .int .i64 (p8 ys 5), .int .i64 (p16 ys 6), .int .i64 (p16 ys 8), .int .i64 (p8 ys 10), .int .i64 (p16 ys 11), .int .i64 (p16 ys 13), .int .i64 (p16 ys 15), .int .i64 (p32 ys 17), .int .i64 (p32 ys 21), .int .i64 0, .int .i64 0, .int .i64 0, .int .i64 0, .string ⟨#[]⟩, .string ⟨#[]⟩] (by rfl) (by simp [go_sem]) rfl) rfl ⟨rfl, ?_⟩
  exact ((Below.refl _ _).alloc (Nat.le_refl _) _).alloc (by simp) _

set_option maxRecDepth 100000 in
set_option maxHeartbeats 8000000 in
theorem sbr40_any (ys : List Int) (w : World) (hB : Byt ys) (hl : ys.length = 51) (h512 : p16 ys 0 = 512) (h41 : p8 ys 27 = 41) :
    Calls Try.prog 6 #[.int .i64 40, .string (strOfNums ys)] w fun e w' => e = .returned (.agg #[.int .i64 40, .int .i64 (512), .int .i64 (p8 ys 2), .int .i64 (p16 ys 3), .int .i64 (p8 ys 5), .int .i64 (p16 ys 6), .int .i64 (p16 ys 8), .int .i64 (p8 ys 10), .int .i64 (p16 ys 11), .int .i64 (p16 ys 13), .int .i64 (p16 ys 15), .int .i64 (p32 ys 17), .int .i64 (p32 ys 21), .int .i64 (p8 ys 25), .int .i64 (p8 ys 26), .int .i64 41, .int .i64 (p32 ys 28), .string (strOfNums (subL ys 32 11)), .string (strOfNums (subL ys 43 8))]) ∧ Below w.heap.size w w' := by
  have HB := Lib.hid hB
  have HL := Lib.hid hl
  have H5 := Lib.hid h512
  clear h512
  have H41 := Lib.hid h41
  clear h41
  clear hB hl
  go_enter Try.func6, Try.ntmps6
  go_wp2_with fail
  refine (num16_any ys 0 _ HB.out (by have := HL.out; omega) (by have := HL.out; omega)).mono ?_
  rintro e w' ⟨rfl, rfl⟩
  rw [H5.out]
  go_wp2_with fail
  refine (at_any ys 2 _ HB.out (by have := HL.out; omega) (by have := HL.out; omega)).mono ?_
  rintro e w' ⟨rfl, rfl⟩
  go_wp2_with fail
  refine (num16_any ys 3 _ HB.out (by have := HL.out; omega) (by have := HL.out; omega)).mono ?_
  rintro e w' ⟨rfl, rfl⟩
  go_wp2_with fail
  refine (at_any ys 5 _ HB.out (by have := HL.out; omega) (by have := HL.out; omega)).mono ?_
  rintro e w' ⟨rfl, rfl⟩
  go_wp2_with fail
  refine (num16_any ys 6 _ HB.out (by have := HL.out; omega) (by have := HL.out; omega)).mono ?_
  rintro e w' ⟨rfl, rfl⟩
  go_wp2_with fail
  refine (num16_any ys 8 _ HB.out (by have := HL.out; omega) (by have := HL.out; omega)).mono ?_
  rintro e w' ⟨rfl, rfl⟩
  go_wp2_with fail
  refine (at_any ys 10 _ HB.out (by have := HL.out; omega) (by have := HL.out; omega)).mono ?_
  rintro e w' ⟨rfl, rfl⟩
  go_wp2_with fail
  refine (num16_any ys 11 _ HB.out (by have := HL.out; omega) (by have := HL.out; omega)).mono ?_
  rintro e w' ⟨rfl, rfl⟩
  go_wp2_with fail
  refine (num16_any ys 13 _ HB.out (by have := HL.out; omega) (by have := HL.out; omega)).mono ?_
  rintro e w' ⟨rfl, rfl⟩
  go_wp2_with fail
  refine (num16_any ys 15 _ HB.out (by have := HL.out; omega) (by have := HL.out; omega)).mono ?_
  rintro e w' ⟨rfl, rfl⟩
  go_wp2_with fail
  refine (num32_any ys 17 _ HB.out (by have := HL.out; omega) (by have := HL.out; omega)).mono ?_
  rintro e w' ⟨rfl, rfl⟩
  go_wp2_with fail
  refine (num32_any ys 21 _ HB.out (by have := HL.out; omega) (by have := HL.out; omega)).mono ?_
  rintro e w' ⟨rfl, rfl⟩
  go_wp2_with fail
  refine (at_any ys 25 _ HB.out (by have := HL.out; omega) (by have := HL.out; omega)).mono ?_
  rintro e w' ⟨rfl, rfl⟩
  go_wp2_with fail
  refine (at_any ys 26 _ HB.out (by have := HL.out; omega) (by have := HL.out; omega)).mono ?_
  rintro e w' ⟨rfl, rfl⟩
  go_wp2_with fail
  refine (at_any ys 27 _ HB.out (by have := HL.out; omega) (by have := HL.out; omega)).mono ?_
  rintro e w' ⟨rfl, rfl⟩
  go_wp2_with fail
  refine (num32_any ys 28 _ HB.out (by have := HL.out; omega) (by have := HL.out; omega)).mono ?_
  rintro e w' ⟨rfl, rfl⟩
  rw [H41.out]
  go_wp2_with fail
  refine (part_any ys 32 11 _ (by have := HL.out; omega) (by omega) (by omega) (by have := HL.out; omega)).mono ?_
  rintro e w' ⟨rfl, rfl⟩
  go_wp2_with fail
  refine (part_any ys 43 8 _ (by have := HL.out; omega) (by omega) (by omega) (by have := HL.out; omega)).mono ?_
  rintro e w' ⟨rfl, rfl⟩
  go_wp2_with fail
  refine bodyPost_ret (results6_blk _ _ w.heap.size #[.int .i64 40, .int .i64 (512), .int .i64 (p8 ys 2), .int .i64 (p16 ys 3), .int .i64 (p8 ys 5), .int .i64 (p16 ys 6), .int .i64 (p16 ys 8), .int .i64 (p8 ys 10), .int .i64 (p16 ys 11), .int .i64 (p16 ys 13), .int .i64 (p16 ys 15), .int .i64 (p32 ys 17), .int .i64 (p32 ys 21), .int .i64 (p8 ys 25), .int .i64 (p8 ys 26), .int .i64 41, .int .i64 (p32 ys 28), .string (strOfNums (subL ys 32 11)), .string (strOfNums (subL ys 43 8))] (by rfl) (by simp [go_sem]) rfl) rfl ⟨rfl, ?_⟩
  exact ((Below.refl _ _).alloc (Nat.le_refl _) _).alloc (by simp) _
end Go.Proofs.Ytblfacaicoaodaa
