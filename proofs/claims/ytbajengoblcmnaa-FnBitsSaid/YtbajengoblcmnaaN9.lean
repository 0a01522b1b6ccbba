/- Walk of the model's free. -/
import Derived.Test.YtbajengoblcmnaaN8
namespace Go.Proofs.Ytbajengoblcmnaa
open Go.RowKit
set_option linter.unusedVariables false

theorem lt_get {bs : List Bool} {k : Nat} {b : Bool} (h : bs[k]? = some b) : k < bs.length := by
  rcases Nat.lt_or_ge k bs.length with h' | h'
  · exact h'
  · rw [List.getElem?_eq_none h'] at h; cases h
/-- where the model's free stands -/
def FreeAt (bs : List Bool) (out : List (Int × Int)) (r : Int) : Prop := (r = -1 ∧ freeOf bs = out) ∨ (∃ a : Nat, r = a ∧ a < bs.length ∧ bs[a]? = some false ∧ scanTo bs a = (out, -1, 0))
theorem after_next {bs : List Bool} {out : List (Int × Int)} {i : Nat} {r : Int} (hs : scanTo bs i = (out, -1, 0)) (hi : i ≤ bs.length) (h : NextIs bs i false r) : FreeAt bs out r := by
  rcases h with ⟨rfl, h⟩ | ⟨k, rfl, hk1, hk2, hk3⟩
  · refine .inl ⟨rfl, ?_⟩
    rw [freeOf, scan_ones hs bs.length hi (fun j h1 h2 => h j h1 h2)]
    rfl
  · exact .inr ⟨k, rfl, lt_get hk2, hk2, scan_ones hs k hk1 (fun j h1 h2 => hk3 j h1 h2)⟩
theorem out_le {bs : List Bool} {out : List (Int × Int)} {a : Nat} (h : scanTo bs a = (out, -1, 0)) : out.length ≤ a := by
  have := (scan_bd bs a).1
  rwa [h] at this
theorem close_end {bs : List Bool} {out : List (Int × Int)} {a : Nat} {r : Int} (hs : scanTo bs a = (out, -1, 0)) (ha : a < bs.length) (h : ∀ j, a ≤ j → j < bs.length → bs[j]? = some (!true)) (hr : NextIs bs bs.length false r) :
    FreeAt bs (out ++ [((a : Int), (bs.length : Int) - a)]) r := by
  rcases hr with ⟨rfl, _⟩ | ⟨k, rfl, hk1, hk2, _⟩
  · refine .inl ⟨rfl, ?_⟩
    rw [freeOf, scan_zeros hs bs.length (by omega) (fun j h1 h2 => h j h1 h2)]
    simp [scanEnd]
  · have := lt_get hk2
    omega
theorem close_at {bs : List Bool} {out : List (Int × Int)} {a k : Nat} {r : Int} (hs : scanTo bs a = (out, -1, 0)) (hak : a < k) (hk : bs[k]? = some true) (h : ∀ j, a ≤ j → j < k → bs[j]? = some (!true)) (hr : NextIs bs k false r) :
    FreeAt bs (out ++ [((a : Int), (k : Int) - a)]) r := by
  have h1 : scanTo bs (k + 1) = (out ++ [((a : Int), (k : Int) - a)], -1, 0) := by
    rw [scanTo, scan_zeros hs k (by omega) (fun j h1 h2 => h j h1 h2), List.getD_eq_getElem?_getD, hk]
    simp [scanStep]
  refine after_next h1 (lt_get hk) ?_
  rcases hr with ⟨rfl, h2⟩ | ⟨k', rfl, hk1, hk2, hk3⟩
  · exact .inl ⟨rfl, fun j h3 h4 => h2 j (by omega) h4⟩
  · refine .inr ⟨k', rfl, ?_, hk2, fun j h3 h4 => hk3 j (by omega) h4⟩
    rcases Nat.lt_or_ge k k' with h5 | h5
    · exact h5
    · obtain rfl : k = k' := by omega
      rw [hk] at hk2; cases hk2
theorem FreeAt.past {bs : List Bool} {out : List (Int × Int)} {a : Nat} {r : Int} (h : FreeAt bs (out ++ [((a : Int), r)]) r) : True := trivial
theorem Try.infoR : (Try.prog.info? 61).map (fun i => (i.zero, i.size, i.bytes)) = some (some (.agg #[.int .i64 0, .int .i64 0]), 2, 16) := by kernel_rfl
def freeLeft (n : Nat) (r : Int) : Nat := if r < 0 then 0 else n + 1 - r.toNat
theorem freeLeft_lt {n a k : Nat} {r : Int} (han : a < n) (hak : a < k) (h : r = -1 ∨ (k : Int) ≤ r) : freeLeft n r < freeLeft n (a : Int) := by
  unfold freeLeft
  rw [if_neg (show ¬ (a : Int) < 0 by omega)]
  split <;> omega

set_option maxHeartbeats 1000000 in
theorem free_any (A : Option Addr) (n c : Nat) (bs : List Bool) (w : World) (hz : bs.length = n) (hm : n ≤ 10000) (h : BoolsAt w A bs) :
    Calls Try.prog 12 #[.slice A n c] w fun e w' => (∃ v, e = .returned v ∧ w'.ownsRow w.heap.size 61 2 v (freeOf bs).length (flatI (freeOf bs))) ∧ Below w.heap.size w w' := by
  obtain ⟨i0, hi, hz0, hz1, hz2⟩ := info_parts Try.infoR
  have HB16 := Lib.hid hz2
  clear hz2
  have HI := Lib.hid h
  have HZ := Lib.hid hz
  clear h hz
  go_enter Try.func12, Try.ntmps12
  go_wp2_with fail
  refine (next_any A n c 0 bs false _ HZ.out (by omega) (by omega) HI.out).mono ?_
  rintro e w' ⟨⟨r0, rfl, hr0⟩, rfl⟩
  have hfa := after_next (show scanTo bs 0 = ([], -1, 0) from rfl) (Nat.zero_le _) hr0
  have HF0 := Lib.hid hfa
  clear hr0 hfa
  go_wp2
  go_loopw [3, 4] (fun v r wr => ∃ (out : List (Int × Int)) (x : Int), r = .int .i64 x ∧ FreeAt bs out x ∧ wr.ownsRow w.heap.size 61 2 v out.length (flatI out) ∧ Below w.heap.size w wr) (fun _ r _ => freeLeft n (intOf r))
  case atStart => exact ⟨[], r0, rfl, HF0.out, World.ownsRow_nil _ _ _ _, Below.refl _ _⟩
  case round =>
    obtain ⟨out, x, rfl, hfa, hown, hbl⟩ := hrel
    have HBL := Lib.hid hbl
    clear hbl HF0
    rcases hfa with ⟨rfl, hfree⟩ | ⟨a, rfl, ha, hba, hsc⟩
    · subst hfree
      have HO := Lib.hid hown
      clear hown
      go_wp2
      go_ret
      exact ⟨⟨_, rfl, HO.out⟩, HBL.out⟩
    · have hol := out_le hsc
      have han : a < n := by rw [← HZ.out]; exact ha
      have HSC := Lib.hid hsc
      have HBA := Lib.hid hba
      clear hsc hba ha
      have ha0 : ¬ (a : Int) < 0 := by omega
      have hbw : BoolsAt wr A bs := HI.out.below HBL.out
      have HBW := Lib.hid hbw
      clear hbw
      go_wp2_with fail
      refine (next_any A n c a bs true _ HZ.out (by omega) (by omega) HBW.out).mono ?_
      rintro e w' ⟨⟨r2, rfl, hr2⟩, rfl⟩
      rcases hr2 with ⟨rfl, hall⟩ | ⟨k, rfl, hk1, hk2, hk3⟩
      · have HALL := Lib.hid hall
        clear hall
        go_wp2_with (at_builtin; refine wpList_append_own _ rfl _ _ 31 rfl w.heap.size 61 i0 (.agg #[.int .i64 0, .int .i64 0]) 2 16 Try.underlying31 hi hz0 hz1 HB16.out rfl (by decide) _ _ _ rfl (hown.alloc _) ⟨wr.heap.size, 0, none⟩ 1 1 [.int .i64 (a : Int), .int .i64 ((n : Int) - a)] rfl rfl (cell_two_new _ _ _ _) (ints_oneCell .i64 [(a : Int), ((n : Int) - a)]) (by unfold maxLen; omega) (by omega) (by have := HBL.out.size; simp; omega) ?_; intro v' w3 hown' hg3 hnil3; have hb3 : Below w.heap.size w w3 := (HBL.out.alloc HBL.out.size _).grown hg3 (by have := HBL.out.size; simp; omega) (fun j hj => (hown.lt j hj).1); have HO3 := Lib.hid hown'; have HB3 := Lib.hid hb3; clear hown hown' hg3 hnil3 hb3)
        refine (next_any A n c n bs false _ HZ.out (by omega) (by omega) (HI.out.below HB3.out)).mono ?_
        rintro e w' ⟨⟨r3, rfl, hr3⟩, rfl⟩
        have hfa : FreeAt bs (out ++ [((a : Int), (n : Int) - a)]) r3 := by
          have := close_end (r := r3) HSC.out (by rw [HZ.out]; exact han) HALL.out (by rw [HZ.out]; exact hr3)
          rwa [HZ.out] at this
        have hlast : r3 = -1 := by
          rcases hr3 with ⟨e, _⟩ | ⟨k, _, h1, h2, _⟩
          · exact e
          · have := lt_get h2; have := HZ.out; omega
        have HFA := Lib.hid hfa
        have HLAST := Lib.hid hlast
        clear hfa hr3 hlast
        go_wp2
        go_roundw
        case rel => exact ⟨_, r3, rfl, HFA.out, by rw [flatI_snoc, List.length_append]; exact HO3.out, HB3.out⟩
        case measure => exact freeLeft_lt (k := a + 1) han (by omega) (.inl HLAST.out)
      · have hkn : k < n := by rw [← HZ.out]; exact lt_get hk2
        have hak : a < k := by
          rcases Nat.lt_or_ge a k with h5 | h5
          · exact h5
          · obtain rfl : a = k := by omega
            have := HBA.out
            rw [hk2] at this; cases this
        have HK2 := Lib.hid hk2
        have HK3 := Lib.hid hk3
        have hk0 : ¬ (k : Int) < 0 := by omega
        clear hk2 hk3
        go_wp2_with (at_builtin; refine wpList_append_own _ rfl _ _ 31 rfl w.heap.size 61 i0 (.agg #[.int .i64 0, .int .i64 0]) 2 16 Try.underlying31 hi hz0 hz1 HB16.out rfl (by decide) _ _ _ rfl (hown.alloc _) ⟨wr.heap.size, 0, none⟩ 1 1 [.int .i64 (a : Int), .int .i64 ((k : Int) - a)] rfl rfl (cell_two_new _ _ _ _) (ints_oneCell .i64 [(a : Int), ((k : Int) - a)]) (by unfold maxLen; omega) (by omega) (by have := HBL.out.size; simp; omega) ?_; intro v' w3 hown' hg3 hnil3; have hb3 : Below w.heap.size w w3 := (HBL.out.alloc HBL.out.size _).grown hg3 (by have := HBL.out.size; simp; omega) (fun j hj => (hown.lt j hj).1); have HO3 := Lib.hid hown'; have HB3 := Lib.hid hb3; clear hown hown' hg3 hnil3 hb3)
        refine (next_any A n c k bs false _ HZ.out (by omega) (by omega) (HI.out.below HB3.out)).mono ?_
        rintro e w' ⟨⟨r3, rfl, hr3⟩, rfl⟩
        have hfa : FreeAt bs (out ++ [((a : Int), (k : Int) - a)]) r3 := close_at HSC.out hak HK2.out HK3.out hr3
        have hlast : r3 = -1 ∨ (k : Int) ≤ r3 := by
          rcases hr3 with ⟨e, _⟩ | ⟨k', e, h1, _, _⟩
          · exact .inl e
          · exact .inr (by omega)
        have HFA := Lib.hid hfa
        have HLAST := Lib.hid hlast
        clear hfa hr3 hlast
        go_wp2
        go_roundw
        case rel => exact ⟨_, r3, rfl, HFA.out, by rw [flatI_snoc, List.length_append]; exact HO3.out, HB3.out⟩
        case measure => exact freeLeft_lt han hak HLAST.out
end Go.Proofs.Ytbajengoblcmnaa
