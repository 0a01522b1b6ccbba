/- Walk of FreeList. -/
import Derived.Test.YtbajengoblcmnaaN6
namespace Go.Proofs.Ytbajengoblcmnaa
open Go.RowKit
set_option linter.unusedVariables false

/-- pairs of numbers, cell by cell -/
def flatI (l : List (Int × Int)) : List Value := l.flatMap fun x => [.int .i64 x.1, .int .i64 x.2]
theorem flatI_snoc (l : List (Int × Int)) (a b : Int) : flatI (l ++ [(a, b)]) = flatI l ++ [.int .i64 a, .int .i64 b] := by simp [flatI]
theorem scan_bd (bs : List Bool) : ∀ p, (scanTo bs p).1.length ≤ p ∧ -1 ≤ (scanTo bs p).2.1 ∧ (scanTo bs p).2.1 ≤ p ∧ 0 ≤ (scanTo bs p).2.2 ∧ (scanTo bs p).2.2 ≤ p
  | 0 => by simp [scanTo]
  | p + 1 => by
    have h := scan_bd bs p
    simp only [scanTo, scanStep]
    split
    · split
      · omega
      · simp; omega
    · simp only []
      split <;> omega
theorem Try.infoC : (Try.prog.info? 60).map (fun i => (i.zero, i.size, i.bytes)) = some (some (.agg #[.int .i64 0, .int .i64 0]), 2, 16) := by kernel_rfl
theorem cell_two_new (w : World) (x y : Value) (t : TypeId) : ∀ j u, [x, y][j]? = some u → (w.alloc (.cells #[x, y] t)).cell? ((⟨w.heap.size, 0, none⟩ : Addr).add j) = some u := by
  intro j u hj
  match j, hj with
  | 0, hj => simp at hj; subst hj; simp [Addr.add]
  | 1, hj => simp at hj; subst hj; simp [Addr.add]

set_option maxHeartbeats 1000000 in
theorem fl_any (g h : Nat) (ys : List Int) (w : World) (hb : BmAt w g h ys) (hn : ys.length ≤ 1000) :
    Calls Try.prog 23 #[.pointer (some ⟨g, 0, none⟩)] w fun e w' => (∃ v, e = .returned v ∧ w'.ownsRow w.heap.size 60 2 v (freeOf (bitsOf ys)).length (flatI (freeOf (bitsOf ys)))) ∧ Below w.heap.size w w' := by
  obtain ⟨i0, hi, hz0, hz1, hz2⟩ := info_parts Try.infoC
  have HB16 := Lib.hid hz2
  clear hz2
  have HB := Lib.hid hb
  have hc := hb.cell
  clear hb
  go_enter Try.func23, Try.ntmps23
  go_wp2
  go_loopw [3, 4, 5, 15] (fun v l c i wr => ∃ (k : Nat) (out : List (Int × Int)) (loc cnt : Int), k ≤ ys.length ∧ i = .int .i64 k ∧ l = .int .i64 loc ∧ c = .int .i64 cnt ∧ scanTo (bitsOf ys) (8 * k) = (out, loc, cnt) ∧
    wr.ownsRow w.heap.size 60 2 v out.length (flatI out) ∧ Below w.heap.size w wr) (fun _ _ _ i _ => ys.length - (intOf i).toNat)
  case atStart => exact ⟨0, [], -1, 0, by omega, by go_num, rfl, rfl, rfl, World.ownsRow_nil _ _ _ _, Below.refl _ _⟩
  case round =>
    obtain ⟨k, out, loc, cnt, hk, rfl, rfl, rfl, hsc, hown, hbl⟩ := hrel
    have HS := Lib.hid hsc
    have HO := Lib.hid hown
    have HBL := Lib.hid hbl
    clear hsc hown hbl
    by_cases hlt : k < ys.length
    · have ha := (HB.out.below HBL.out HB.out.lt.1 HB.out.lt.2).at k hlt
      have hyb := HB.out.byt.at hlt
      have hbt : ∀ j, j < 8 → bitAt ys (8 * k + j) = bt (ys.getD k 0) j := fun j hj => by rw [bitAt_bt, show (8 * k + j) / 8 = k from by omega, show (8 * k + j) % 8 = j from by omega]
      obtain ⟨y, hy⟩ : ∃ y, y = ys.getD k 0 := ⟨_, rfl⟩
      rw [← hy] at ha hyb hbt
      have HBT := Lib.hid hbt
      clear hy hbt
      go_wp2
      go_loopw [3, 4, 5, 8] (fun v l c i wv => ∃ (j : Nat) (out : List (Int × Int)) (loc cnt : Int), j ≤ 8 ∧ i = .int .u8 j ∧ l = .int .i64 loc ∧ c = .int .i64 cnt ∧ scanTo (bitsOf ys) (8 * k + j) = (out, loc, cnt) ∧
        wv.ownsRow w.heap.size 60 2 v out.length (flatI out) ∧ Below w.heap.size w wv) (fun _ _ _ i _ => 8 - (intOf i).toNat)
      case atStart => exact ⟨0, out, loc, cnt, by omega, by go_num, rfl, rfl, HS.out, HO.out, HBL.out⟩
      case round =>
        obtain ⟨j, out, loc, cnt, hj, rfl, rfl, rfl, hsc, hown, hbl⟩ := hrel
        have hbd := scan_bd (bitsOf ys) (8 * k + j)
        rw [hsc] at hbd
        obtain ⟨b1, b2, b3, b4, b5⟩ := hbd
        simp only at b1 b2 b3 b4 b5
        clear HO HBL
        by_cases hj8 : j < 8
        · have hnext : scanTo (bitsOf ys) (8 * k + (j + 1)) = scanStep (out, loc, cnt) (8 * k + j) (bt y j) := by
            rw [show 8 * k + (j + 1) = (8 * k + j) + 1 from by omega, scanTo, hsc, List.getD_eq_getElem?_getD, bitsOf_get ys _ (by omega), HBT.out j hj8]
            rfl
          have HNX := Lib.hid hnext
          have HO := Lib.hid hown
          have HBL := Lib.hid hbl
          clear hnext hsc
          cases hbj : bt y j with
          | false =>
            have hand : ¬ bits BinOp.and IntKind.u8 y (2 ^ j % 256) = 2 ^ j % 256 := by
              have := and_eq hyb.1 hyb.2 hj8
              rw [hbj] at this
              simpa using this
            have HBJ := Lib.hid hbj
            clear hbj hown hbl
            by_cases hloc : loc = -1
            · subst hloc
              go_wp2
              go_roundw
              case rel => exact ⟨j + 1, out, (8 * k + j : Nat), cnt + 1, by omega, by go_num, by go_num, by go_num, by rw [HNX.out, HBJ.out]; rfl, HO.out, HBL.out⟩
              case measure => simp [intOf]; omega
            · have hloc' : (loc == -1) = false := by simpa using hloc
              go_wp2
              go_roundw
              case rel => exact ⟨j + 1, out, loc, cnt + 1, by omega, by go_num, by go_num, by go_num, by rw [HNX.out, HBJ.out]; simp [scanStep, hloc], HO.out, HBL.out⟩
              case measure => simp [intOf]; omega
          | true =>
            have hand : bits BinOp.and IntKind.u8 y (2 ^ j % 256) = 2 ^ j % 256 := by
              have := and_eq hyb.1 hyb.2 hj8
              rw [hbj] at this
              simpa using this
            have HBJ := Lib.hid hbj
            clear hbj hbl
            by_cases hloc : loc = -1
            · subst hloc
              clear hown
              go_wp2
              go_roundw
              case rel => exact ⟨j + 1, out, -1, cnt, by omega, by go_num, by go_num, by go_num, by rw [HNX.out, HBJ.out]; rfl, HO.out, HBL.out⟩
              case measure => simp [intOf]; omega
            · have hloc' : (loc == -1) = false := by simpa using hloc
              go_wp2_with (first | (at_builtin; refine wpList_append_own _ rfl _ _ 57 rfl w.heap.size 60 i0 (.agg #[.int .i64 0, .int .i64 0]) 2 16 Try.underlying57 hi hz0 hz1 HB16.out rfl (by decide) _ _ _ rfl (hown.alloc _) ⟨wr.heap.size, 0, none⟩ 1 1 [.int .i64 loc, .int .i64 cnt] rfl rfl (cell_two_new _ _ _ _) (ints_oneCell .i64 [loc, cnt]) (by unfold maxLen; omega) (by omega) (by have := HBL.out.size; simp; omega) ?_; intro v' w3 hown' hg3 hnil3) | go_in)
              go_roundw
              case rel => exact ⟨j + 1, out ++ [(loc, cnt)], -1, 0, by omega, by go_num, by go_num, by go_num, by rw [HNX.out, HBJ.out]; simp [scanStep, hloc], by rw [flatI_snoc, List.length_append]; exact hown',
                (HBL.out.alloc HBL.out.size _).grown hg3 (by have := HBL.out.size; simp; omega) (fun j hj => (hown.lt j hj).1)⟩
              case measure => simp [intOf]; omega
        · obtain rfl : j = 8 := by omega
          have HS2 := Lib.hid hsc
          have HO2 := Lib.hid hown
          have HBL2 := Lib.hid hbl
          clear hsc hown hbl
          go_wp2
          go_roundw
          case rel => exact ⟨k + 1, out, loc, cnt, by omega, by go_num, rfl, rfl, by rw [show 8 * (k + 1) = 8 * k + 8 from by omega]; exact HS2.out, HO2.out, HBL2.out⟩
          case measure => simp [intOf]; omega
    · obtain rfl : k = ys.length := by omega
      have hfree : freeOf (bitsOf ys) = scanEnd (out, loc, cnt) := by rw [freeOf, bitsOf_len, HS.out]
      have hbd := scan_bd (bitsOf ys) (8 * ys.length)
      rw [HS.out] at hbd
      obtain ⟨b1, b2, b3, b4, b5⟩ := hbd
      simp only at b1 b2 b3 b4 b5
      have HFREE := Lib.hid hfree
      clear hfree
      have hown := HO.out
      by_cases hloc : loc = -1
      · subst hloc
        clear hown
        go_wp2
        go_ret
        rw [HFREE.out]
        exact ⟨⟨_, rfl, HO.out⟩, HBL.out⟩
      · have hloc' : (loc == -1) = false := by simpa using hloc
        go_wp2_with (first | (at_builtin; refine wpList_append_own _ rfl _ _ 57 rfl w.heap.size 60 i0 (.agg #[.int .i64 0, .int .i64 0]) 2 16 Try.underlying57 hi hz0 hz1 HB16.out rfl (by decide) _ _ _ rfl (hown.alloc _) ⟨wr.heap.size, 0, none⟩ 1 1 [.int .i64 loc, .int .i64 cnt] rfl rfl (cell_two_new _ _ _ _) (ints_oneCell .i64 [loc, cnt]) (by unfold maxLen; omega) (by omega) (by have := HBL.out.size; simp; omega) ?_; intro v' w3 hown' hg3 hnil3) | go_in)
        go_ret
        rw [HFREE.out]
        refine ⟨⟨_, rfl, ?_⟩, (HBL.out.alloc HBL.out.size _).grown hg3 (by have := HBL.out.size; simp; omega) (fun j hj => (hown.lt j hj).1)⟩
        simp only [scanEnd, hloc, if_false]
        rw [flatI_snoc, List.length_append]
        exact hown'
end Go.Proofs.Ytbajengoblcmnaa
