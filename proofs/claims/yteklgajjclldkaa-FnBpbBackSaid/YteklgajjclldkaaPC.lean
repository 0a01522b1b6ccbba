/- A text without the blanks at its end; a row of bytes as a text; a text's bytes as a row. -/
import Derived.Test.YteklgajjclldkaaPB
namespace Go.Proofs.Yteklgajjclldkaa
open Go.RowKit
set_option linter.unusedVariables false

/-- without the blanks at the end -/
def trimL (zs : List Int) : List Int := (zs.reverse.dropWhile (· == 32)).reverse
theorem trimL_nil : trimL [] = [] := rfl
theorem trimL_blank (zs : List Int) : trimL (zs ++ [32]) = trimL zs := by simp [trimL]
theorem trimL_other (zs : List Int) (x : Int) (h : x ≠ 32) : trimL (zs ++ [x]) = zs ++ [x] := by simp [trimL, h]
theorem trimL_last {zs : List Int} {k : Nat} (hk : k < zs.length) (h : zs.getD k 0 ≠ 32) : trimL (zs.take (k + 1)) = zs.take (k + 1) := by
  rw [List.take_add_one, List.getElem?_eq_getElem hk]
  rw [List.getD_eq_getElem?_getD, List.getElem?_eq_getElem hk] at h
  exact trimL_other _ _ h
theorem trimL_step {zs : List Int} {k : Nat} (hk : k < zs.length) (h : zs.getD k 0 = 32) : trimL (zs.take (k + 1)) = trimL (zs.take k) := by
  rw [List.take_add_one, List.getElem?_eq_getElem hk]
  rw [List.getD_eq_getElem?_getD, List.getElem?_eq_getElem hk] at h
  have h' : zs[k] = 32 := h
  rw [h']
  exact trimL_blank _
theorem nums_extract (zs : List Int) (k j : Nat) (hj : j ≤ k) (hk : k ≤ zs.length) : (strOfNums (zs.take k)).extract 0 j = strOfNums (zs.take j) := by
  apply ByteArray.ext
  apply Array.ext'
  simp only [ByteArray.data_extract, strOfNums, List.extract_toArray]
  rw [List.extract_eq_take_drop]
  simp only [Nat.sub_zero, List.drop_zero]
  rw [← List.map_take, List.take_take, Nat.min_eq_left hj]
theorem nums_at (zs : List Int) (hb : Byt zs) (k : Nat) (hk : k < zs.length) (i : Nat) (hi : i < k + 1) (h : i < (strOfNums (zs.take (k + 1))).size) : (((strOfNums (zs.take (k + 1)))[i]'h).toNat : Int) = zs.getD i 0 := by
  have hiz : i < zs.length := by omega
  show (((strOfNums (zs.take (k + 1))).data[i]).toNat : Int) = _
  have hbi := hb i
  rw [List.getD_eq_getElem?_getD, List.getElem?_eq_getElem hiz] at hbi ⊢
  simp only [Option.getD_some] at hbi ⊢
  simp only [strOfNums, List.getElem_toArray, List.getElem_map, List.getElem_take, UInt8.toNat_ofNat']
  omega

theorem nums_at' (zs : List Int) (hb : Byt zs) (k : Nat) (hk : k < zs.length) (i : Nat) (hi : i < k + 1) {S : ByteArray} (hS : S = strOfNums (zs.take (k + 1))) (h : i < S.size) : (((S[i]'h).toNat : Nat) : Int) = zs.getD i 0 := by
  subst hS
  exact nums_at zs hb k hk i hi h
def lenT : Value → Nat
  | .string s => s.size
  | _ => 0
set_option maxHeartbeats 1000000 in
theorem ztrim_any (zs : List Int) (w : World) (hb : Byt zs) (hn : zs.length ≤ 1000) :
    Calls Try.prog 27 #[.string (strOfNums zs)] w fun e w' => e = .returned (.string (strOfNums (trimL zs))) ∧ w = w' := by
  have HB := Lib.hid hb
  clear hb
  have HT0 := Lib.hid (show strOfNums zs = strOfNums (zs.take zs.length) by rw [List.take_length])
  go_enter Try.func27, Try.ntmps27
  go_wp2
  go_loopw [0] (fun s wr => ∃ k : Nat, k ≤ zs.length ∧ s = .string (strOfNums (zs.take k)) ∧ trimL (zs.take k) = trimL zs ∧ w = wr) (fun s _ => lenT s)
  case atStart => exact ⟨zs.length, Nat.le_refl _, by rw [HT0.out], by rw [List.take_length], rfl⟩
  case round =>
    obtain ⟨k, hk, rfl, ht, rfl⟩ := hrel
    have HT := Lib.hid ht
    clear ht
    have hsz : (strOfNums (zs.take k)).size = k := by rw [strOfNums_size, List.length_take]; omega
    rcases Nat.eq_zero_or_pos k with rfl | hpos
    · have HT2 := Lib.hid (show trimL zs = [] by rw [← HT.out]; rfl)
      go_wp2
      go_ret
      exact ⟨by rw [HT2.out]; rfl, rfl⟩
    · obtain ⟨m, rfl⟩ : ∃ m, k = m + 1 := ⟨k - 1, by omega⟩
      have hex := nums_extract zs (m + 1) m (by omega) hk
      obtain ⟨S, hS⟩ : ∃ S, S = strOfNums (zs.take (m + 1)) := ⟨_, rfl⟩
      have HS := Lib.hid hS
      rw [← hS] at hsz hex ⊢
      clear hS
      have hi : m < S.size := by omega
      have hat := nums_at' zs HB.out m (by omega) m (by omega) HS.out hi
      obtain ⟨x, hx⟩ : ∃ x, x = zs.getD m 0 := ⟨_, rfl⟩
      rw [← hx] at hat
      have HX := Lib.hid hx
      clear hx
      by_cases h32 : x = 32
      · subst h32
        go_wp2
        go_roundw
        case rel => exact ⟨m, by omega, by first | rfl | skip, by rw [← HT.out]; exact (trimL_step (by omega) HX.out.symm).symm, by first | rfl | trivial⟩
        case measure => simp [lenT, strOfNums_size, hsz]; omega
      · have HE := Lib.hid (show trimL zs = zs.take (m + 1) by rw [← HT.out]; exact trimL_last (by omega) (by rw [← HX.out]; exact h32))
        go_wp2
        go_ret
        exact ⟨by rw [HE.out, ← HS.out]; rfl, rfl⟩

/-- some bytes of a row -/
def subL (ys : List Int) (o n : Nat) : List Int := (ys.drop o).take n
theorem subL_len {ys : List Int} {o n : Nat} (h : o + n ≤ ys.length) : (subL ys o n).length = n := by simp [subL]; omega
theorem subL_at {ys : List Int} {o n i : Nat} (hi : i < n) : (subL ys o n).getD i 0 = ys.getD (o + i) 0 := by
  rw [List.getD_eq_getElem?_getD, List.getD_eq_getElem?_getD, subL, List.getElem?_take, if_pos hi, List.getElem?_drop]
theorem subL_byt {ys : List Int} (h : Byt ys) (o n : Nat) : Byt (subL ys o n) := fun i => by
  by_cases hi : i < n
  · rw [subL_at hi]; exact h _
  · rw [List.getD_eq_getElem?_getD, List.getElem?_eq_none (by simp [subL]; omega)]
    simp
/-- a part of the row as a text -/
theorem conv_sub {w : World} {g : Nat} {ys : List Int} (hS : Bys w g ys) (o n c : Nat) (hn : 0 < n) (h : o + n ≤ ys.length) :
    (convert 36 9 (.slice (some ⟨g, o, none⟩) n c)).run Try.prog w = .ok (.string (strOfNums (subL ys o n))) w :=
  run_convert_bytes_arg w 36 5 Try.underlying36 Try.underlying5 g o n c (subL ys o n) (subL_len h) (fun i hi => by
    rw [hS (o + i) (by omega), subL_at hi]) 9 Try.underlying9
theorem Bys.setCell {w : World} {g h i : Nat} {ys : List Int} {v : Value} (hS : Bys w g ys) (hne : h ≠ g) : Bys (w.setCell ⟨h, i, none⟩ v) g ys := fun j hj =>
  (World.cell?_setCell_other _ _ _ _ (by intro e; cases e; exact hne rfl)).trans (hS j hj)
/-- '[]byte(s)' -/
theorem conv_bys (w : World) (ys : List Int) (hB : Byt ys) : ∃ (cap : Nat) (W : World), (convert 9 36 (.string (strOfNums ys))).run Try.prog w = .ok (.slice (some ⟨w.heap.size, 0, none⟩) ys.length cap) W ∧ ys.length ≤ cap ∧ Below w.heap.size w W ∧ w.heap.size < W.heap.size ∧ Bys W w.heap.size ys := by
  have h := run_bytes_of_string (P := Try.prog) w 9 36 5 (strOfNums ys) Try.underlying9 Try.underlying36 Try.underlying5
  rw [strOfNums_size] at h
  have hcap := grownCap_ge w ys.length 0 5
  generalize hcv : grownCap w ys.length 0 5 = cap at h hcap
  obtain ⟨R, hR⟩ : ∃ R, R = bytesRow (strOfNums ys) cap := ⟨_, rfl⟩
  rw [← hR] at h
  have hheap : (w.drew.alloc (.cells R 5 (R.size, R.size + 1))).heap[w.heap.size]? = some (.cells R 5 (R.size, R.size + 1)) := heap_alloc_new w.drew _
  refine ⟨cap, _, h, hcap, (Below.refl _ _).drew.alloc (Nat.le_refl _) _, by simp, ?_⟩
  intro i hi
  have hc : (w.drew.alloc (.cells R 5 (R.size, R.size + 1))).cell? ⟨w.heap.size, i, none⟩ = R[i]? := cell_of_row _ _ _ _ _ _ hheap
  have hd : i < (strOfNums ys).data.size := by
    have : (strOfNums ys).size = ys.length := strOfNums_size ys
    show i < (strOfNums ys).size
    omega
  rw [hc, hR, bytesRow, Array.getElem?_append_left (by simpa using hd), Array.getElem?_map, Array.getElem?_eq_getElem hd]
  simp only [Option.map_some]
  congr 2
  have hbi := hB i
  rw [List.getD_eq_getElem?_getD, List.getElem?_eq_getElem hi] at hbi ⊢
  simp only [Option.getD_some] at hbi ⊢
  simp only [strOfNums, List.getElem_toArray, List.getElem_map, UInt8.toNat_ofNat']
  omega
end Go.Proofs.Yteklgajjclldkaa
