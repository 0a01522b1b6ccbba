/- Walk of the model's Bytes. -/
import Derived.Test.YtbajengoblcmnaaN9
import Derived.BigRegion
namespace Go.Proofs.Ytbajengoblcmnaa
open Go.RowKit
set_option linter.unusedVariables false

theorem byte_sum {b : Int} (h0 : 0 ≤ b) (h1 : b < 256) : b = (if bt b 0 then 1 else 0) + (if bt b 1 then 2 else 0) + (if bt b 2 then 4 else 0) + (if bt b 3 then 8 else 0) + (if bt b 4 then 16 else 0) + (if bt b 5 then 32 else 0) + (if bt b 6 then 64 else 0) + (if bt b 7 then 128 else 0) := by
  obtain ⟨n, hn, rfl⟩ := byte_ex h0 h1
  clear h0 h1
  revert n
  decide +kernel
theorem byte_eq {b c : Int} (h0 : 0 ≤ b) (h1 : b < 256) (k0 : 0 ≤ c) (k1 : c < 256) (h : ∀ j, j < 8 → bt b j = bt c j) : b = c := by
  rw [byte_sum h0 h1, byte_sum k0 k1, h 0 (by omega), h 1 (by omega), h 2 (by omega), h 3 (by omega), h 4 (by omega), h 5 (by omega), h 6 (by omega), h 7 (by omega)]
theorem bytes_eq {xs ys : List Int} (hx : Byt xs) (hy : Byt ys) (hl : xs.length = ys.length) (h : ∀ q, q < 8 * ys.length → bitAt xs q = bitAt ys q) : xs = ys := by
  apply List.ext_getElem? 
  intro i
  by_cases hi : i < ys.length
  · have hix : i < xs.length := by omega
    have e : xs.getD i 0 = ys.getD i 0 := byte_eq (hx.at hix).1 (hx.at hix).2 (hy.at hi).1 (hy.at hi).2 (fun j hj => by
      have := h (8 * i + j) (by omega)
      rwa [bitAt_bt, bitAt_bt, show (8 * i + j) / 8 = i from by omega, show (8 * i + j) % 8 = j from by omega] at this)
    rw [List.getD_eq_getElem?_getD, List.getD_eq_getElem?_getD, List.getElem?_eq_getElem hi, List.getElem?_eq_getElem hix] at e
    rw [List.getElem?_eq_getElem hi, List.getElem?_eq_getElem hix]
    exact congrArg some e
  · rw [List.getElem?_eq_none (by omega), List.getElem?_eq_none (by omega)]

/-- the bytes with the first k bits alone -/
def part (ys : List Int) : Nat → List Int
  | 0 => List.replicate ys.length 0
  | k + 1 => if bitAt ys k then ysSet (part ys k) k else part ys k
theorem part_len (ys : List Int) : ∀ k, (part ys k).length = ys.length
  | 0 => by simp [part]
  | k + 1 => by
    rw [part]
    split
    · rw [ysSet_len, part_len ys k]
    · exact part_len ys k
theorem part_byt (ys : List Int) : ∀ k, k ≤ 8 * ys.length → Byt (part ys k)
  | 0, _ => fun y hy => by
    rw [List.eq_of_mem_replicate (show y ∈ List.replicate ys.length 0 from hy)]
    omega
  | k + 1, h => by
    rw [part]
    split
    · exact (part_byt ys k (by omega)).set (by rw [part_len]; omega)
    · exact part_byt ys k (by omega)
theorem part_bit (ys : List Int) : ∀ k, k ≤ 8 * ys.length → ∀ q, bitAt (part ys k) q = (decide (q < k) && bitAt ys q)
  | 0, _, q => by
    rw [bitAt_bt]
    have : (List.replicate ys.length (0 : Int)).getD (q / 8) 0 = 0 := by
      rw [List.getD_eq_getElem?_getD, List.getElem?_replicate]
      split <;> rfl
    rw [part, this, bt_all_0 (by omega)]
    simp
  | k + 1, h, q => by
    have ih := part_bit ys k (by omega) q
    rw [part]
    cases hb : bitAt ys k with
    | true =>
      rw [if_pos rfl, bitAt_set (part_byt ys k (by omega)) (by rw [part_len]; omega), ih]
      by_cases e : q = k
      · subst e; simp [hb]
      · rw [if_neg e]; congr 1; simp; omega
    | false =>
      rw [if_neg (by simp), ih]
      by_cases e : q = k
      · subst e; simp [hb]
      · congr 1; simp; omega
theorem part_all {ys : List Int} (h : Byt ys) : part ys (8 * ys.length) = ys :=
  bytes_eq (part_byt ys _ (Nat.le_refl _)) h (part_len ys _) (fun q hq => by rw [part_bit ys _ (Nat.le_refl _) q]; simp [hq])

set_option maxHeartbeats 1000000 in
theorem bytes_any (A : Option Addr) (c : Nat) (ys : List Int) (w : World) (hy : Byt ys) (hm : ys.length ≤ 1000) (h : BoolsAt w A (bitsOf ys)) :
    Calls Try.prog 13 #[.slice A (8 * ys.length) c] w fun e w' => e = .returned (.string (strOfNums ys)) ∧ Below w.heap.size w w' := by
  have hmk := mk_byte ys.length (by omega)
  have HI := Lib.hid h
  have HY := Lib.hid hy
  clear h hy
  obtain ⟨N, hN⟩ : ∃ N, N = 8 * ys.length := ⟨_, rfl⟩
  rw [← hN]
  have h8 : ((N : Int) + 7) / 8 = (ys.length : Int) := by omega
  have HN := Lib.hid hN
  clear hN
  have hN1 : N ≤ 8000 := by have := HN.out; omega
  go_enter Try.func13, Try.ntmps13
  go_wp2
  go_loopw [13] (fun i wr => ∃ k : Nat, k ≤ N ∧ i = .int .i64 k ∧ wr.heap[w.heap.size]? = some (.cells (byteRow (part ys k)) 5 (0, 0)) ∧ Below w.heap.size w wr) (fun i _ => N - (intOf i).toNat)
  case atStart => exact ⟨0, by omega, by go_num, heap_new rfl, (Below.refl _ _).alloc (Nat.le_refl _) _⟩
  case round =>
    obtain ⟨k, hk, rfl, hrow, hbl⟩ := hrel
    have HR := Lib.hid hrow
    have HBL := Lib.hid hbl
    clear hrow hbl
    by_cases hlt : k < N
    · obtain ⟨g, rfl, hgl, hc0⟩ := HI.out k (by rw [bitsOf_len, ← HN.out]; exact hlt)
      have hc : wr.cell? ⟨g, k, none⟩ = some (.bool (bitAt ys k)) := by
        rw [HBL.out.cell (p := ⟨g, k, none⟩) hgl, hc0, List.getD_eq_getElem?_getD, bitsOf_get ys k (by rw [← HN.out]; exact hlt)]
        rfl
      have HPB := Lib.hid (part_byt ys k (by rw [← HN.out]; exact hk))
      clear hc0
      cases hbk : bitAt ys k with
      | false =>
        rw [hbk] at hc
        have HBK := Lib.hid hbk
        clear hbk
        go_wp2
        go_roundw
        case rel => exact ⟨k + 1, by omega, by go_num, by rw [part, HBK.out]; exact HR.out, HBL.out⟩
        case measure => simp [intOf]; omega
      | true =>
        rw [hbk] at hc
        have HBK := Lib.hid hbk
        clear hbk
        have hk8 : k / 8 < ys.length := by have := HN.out; omega
        obtain ⟨y, hy⟩ : ∃ y, y = (part ys k).getD (k / 8) 0 := ⟨_, rfl⟩
        have hca : wr.cell? ⟨w.heap.size, k / 8, none⟩ = some (.int .u8 y) := by
          rw [cell_of_row _ _ (k / 8) _ _ _ HR.out, byteRow, List.getElem?_toArray, List.getElem?_map, hy, List.getD_eq_getElem?_getD, List.getElem?_eq_getElem (by rw [part_len]; exact hk8)]
          rfl
        have hcf : wr.frozen? ⟨w.heap.size, k / 8, none⟩ = false := frozen_of_row _ _ _ _ _ HR.out
        have hkq : (k : Int) / 8 < (ys.length : Int) := by omega
        have HYY := Lib.hid hy
        clear hy
        go_wp2
        go_region
        go_wp2
        go_roundw
        case rel =>
          refine ⟨k + 1, by omega, by go_num, ?_, (HBL.out.setCell (p := ⟨w.heap.size, k / 8, none⟩) (Nat.le_refl _) _).drew⟩
          have e := heap_setCell_same wr w.heap.size (k / 8) _ _ (.int .u8 (orB y (k % 8))) HR.out
          have e2 : (byteRow (part ys k)).setIfInBounds (k / 8) (.int .u8 (orB y (k % 8))) = byteRow (part ys (k + 1)) := by
            rw [part, HBK.out, if_pos rfl, ysSet, ← HYY.out]
            apply Array.ext'
            simp [byteRow, List.map_set]
          rw [e2] at e
          exact e
        case measure => simp [intOf]; omega
    · obtain rfl : k = N := by omega
      have hrow := HR.out
      rw [HN.out, part_all HY.out] at hrow
      have hcv : (convert 48 9 (.slice (some ⟨w.heap.size, 0, none⟩) ys.length ys.length)).run Try.prog wr = .ok (.string (strOfNums ys)) wr :=
        run_convert_bytes_arg wr 48 5 Try.underlying48 Try.underlying5 w.heap.size 0 ys.length ys.length ys rfl (fun i hi => by
          rw [Nat.zero_add, cell_of_row _ _ i _ _ _ hrow, byteRow, List.getElem?_toArray, List.getElem?_map, List.getElem?_eq_getElem hi]
          simp [List.getD, hi]) 9 Try.underlying9
      clear hrow
      go_wp2
      go_ret
      exact ⟨rfl, HBL.out⟩
end Go.Proofs.Ytbajengoblcmnaa
