/- Walk of spec.BitsOf. -/
import Derived.Test.YtbajengoblcmnaaN7
namespace Go.Proofs.Ytbajengoblcmnaa
open Go.RowKit
set_option linter.unusedVariables false

/-- a text's bytes -/
def numS (s : ByteArray) : List Int := s.data.toList.map fun x => (x.toNat : Int)
theorem numS_len (s : ByteArray) : (numS s).length = s.size := by
  rw [numS, List.length_map]
  exact Array.length_toList
theorem numS_byt (s : ByteArray) : Byt (numS s) := fun y hy => by
  obtain ⟨x, _, rfl⟩ := List.mem_map.1 hy
  have := x.toNat_lt
  omega
theorem numS_at (s : ByteArray) (k : Nat) (h : k < s.size) : (((s[k]'h).toNat : Nat) : Int) = (numS s).getD k 0 := by
  have h' : k < s.data.toList.length := by rw [Array.length_toList]; exact h
  rw [List.getD_eq_getElem?_getD, numS, List.getElem?_map, List.getElem?_eq_getElem h']
  rfl
def bools (l : List Bool) : List Value := l.map Value.bool
theorem take_next' (ys : List Int) (p : Nat) (h : p < 8 * ys.length) : bools ((bitsOf ys).take (p + 1)) = bools ((bitsOf ys).take p) ++ [.bool (bitAt ys p)] := by
  rw [List.take_add_one, bitsOf_get ys p h]
  simp [bools]
theorem Try.infoO : (Try.prog.info? 4).map (fun i => (i.zero, i.size, i.bytes)) = some (some (.bool false), 1, 1) := by kernel_rfl

set_option maxHeartbeats 1000000 in
theorem bitsof_any (s : ByteArray) (w : World) (hn : s.size ≤ 1000) :
    Calls Try.prog 5 #[.string s] w fun e w' => (∃ v, e = .returned v ∧ w'.ownsRow w.heap.size 4 1 v (8 * s.size) (bools (bitsOf (numS s)))) ∧ Below w.heap.size w w' := by
  obtain ⟨i0, hi, hz0, hz1, hz2⟩ := info_parts Try.infoO
  have HB1 := Lib.hid hz2
  clear hz2
  have HL := Lib.hid (numS_len s)
  go_enter Try.func5, Try.ntmps5
  go_wp2
  go_loopw [3, 8] (fun v i wr => ∃ k : Nat, k ≤ s.size ∧ i = .int .i64 k ∧ wr.ownsRow w.heap.size 4 1 v (8 * k) (bools ((bitsOf (numS s)).take (8 * k))) ∧ Below w.heap.size w wr) (fun _ i _ => s.size - (intOf i).toNat)
  case atStart => exact ⟨0, by omega, by go_num, World.ownsRow_nil _ _ _ _, Below.refl _ _⟩
  case round =>
    obtain ⟨k, hk, rfl, hown, hbl⟩ := hrel
    have HO := Lib.hid hown
    have HBL := Lib.hid hbl
    clear hown hbl
    by_cases hlt : k < s.size
    · obtain ⟨y, hy⟩ : ∃ y : Int, y = (((s[k]'hlt).toNat : Nat) : Int) := ⟨_, rfl⟩
      have hyn : y = (numS s).getD k 0 := hy.trans (numS_at s k hlt)
      have hyb : 0 ≤ y ∧ y < 256 := by rw [hyn]; exact (numS_byt s).at (by rw [HL.out]; exact hlt)
      have hbt : ∀ j, j < 8 → bitAt (numS s) (8 * k + j) = bt y j := fun j hj => by rw [bitAt_bt, show (8 * k + j) / 8 = k from by omega, show (8 * k + j) % 8 = j from by omega, hyn]
      have HBT := Lib.hid hbt
      have HY := Lib.hid hy
      clear hbt hy hyn
      go_wp2
      go_loopw [3, 11] (fun v i wr => ∃ j : Nat, j ≤ 8 ∧ i = .int .i64 j ∧ wr.ownsRow w.heap.size 4 1 v (8 * k + j) (bools ((bitsOf (numS s)).take (8 * k + j))) ∧ Below w.heap.size w wr) (fun _ i _ => 8 - (intOf i).toNat)
      case atStart => exact ⟨0, by omega, by go_num, HO.out, HBL.out⟩
      case round =>
        obtain ⟨j, hj, rfl, hown, hbl⟩ := hrel
        clear HO HBL
        have HBL := Lib.hid hbl
        clear hbl
        by_cases hj8 : j < 8
        · go_wp2_with (first | (at_builtin; refine wpList_append_own _ rfl _ _ 25 rfl w.heap.size 4 i0 (.bool false) 1 1 Try.underlying25 hi hz0 hz1 HB1.out rfl (by decide) _ _ _ rfl (hown.alloc _) ⟨wr.heap.size, 0, none⟩ 1 1 [.bool (bits BinOp.and IntKind.u8 ((((s[k]'hlt).toNat : Nat) : Int) / 2 ^ j) 1 == 1)] rfl rfl (cell_one_new _ _ _) (fun u hu => by simp at hu; subst hu; rfl) (by unfold maxLen; omega) (by omega) (by have := HBL.out.size; simp; omega) ?_; intro v' w3 hown' hg3 hnil3) | go_in)
          have e : (bits BinOp.and IntKind.u8 ((((s[k]'hlt).toNat : Nat) : Int) / 2 ^ j) 1 == 1) = bitAt (numS s) (8 * k + j) := by
            rw [← HY.out, bt_shr hyb.1 hyb.2 hj8, HBT.out j hj8]
          rw [e, ← take_next' _ _ (by rw [HL.out]; omega)] at hown'
          go_roundw
          case rel => exact ⟨j + 1, by omega, by go_num, hown', (HBL.out.alloc HBL.out.size _).grown hg3 (by have := HBL.out.size; simp; omega) (fun j hj => (hown.lt j hj).1)⟩
          case measure => simp [intOf]; omega
        · obtain rfl : j = 8 := by omega
          have HO := Lib.hid hown
          clear hown
          go_wp2
          go_roundw
          case rel => exact ⟨k + 1, by omega, by go_num, HO.out, HBL.out⟩
          case measure => simp [intOf]; omega
    · obtain rfl : k = s.size := by omega
      have e : (bitsOf (numS s)).take (8 * s.size) = bitsOf (numS s) := List.take_of_length_le (by rw [bitsOf_len, HL.out]; exact Nat.le_refl _)
      have hown := HO.out
      rw [e] at hown
      have HO2 := Lib.hid hown
      clear e hown
      go_wp2
      go_ret
      exact ⟨⟨_, rfl, HO2.out⟩, HBL.out⟩
end Go.Proofs.Ytbajengoblcmnaa
