/- Walk of FirstFree. -/
import Derived.Test.YtbajengoblcmnaaN5
namespace Go.Proofs.Ytbajengoblcmnaa
open Go.RowKit
set_option linter.unusedVariables false

set_option maxHeartbeats 1000000 in
theorem ff_any (g h : Nat) (ys : List Int) (p : Nat) (w : World) (hb : BmAt w g h ys) (hn : ys.length ≤ 1000) (hp : p < 8 * ys.length) :
    Calls Try.prog 21 #[.pointer (some ⟨g, 0, none⟩), .int .i64 (p : Int)] w fun e w' => (∃ r, e = .returned (.int .i64 r) ∧ NextIs (bitsOf ys) p false r) ∧ w = w' := by
  have HB := Lib.hid hb
  have hc := hb.cell
  have hp8 : p / 8 < ys.length := by omega
  have ha := hb.at (p / 8) hp8
  have hyb := hb.byt.at hp8
  have hbt : ∀ j, j < 8 → bitAt ys (8 * (p / 8) + j) = bt (ys.getD (p / 8) 0) j := fun j hj => by rw [bitAt_bt, show (8 * (p / 8) + j) / 8 = p / 8 from by omega, show (8 * (p / 8) + j) % 8 = j from by omega]
  obtain ⟨y, hy⟩ : ∃ y, y = ys.getD (p / 8) 0 := ⟨_, rfl⟩
  rw [← hy] at ha hyb hbt
  obtain ⟨m, hm⟩ : ∃ m, m = p / 8 := ⟨_, rfl⟩
  obtain ⟨s, hs⟩ : ∃ s, s = p % 8 := ⟨_, rfl⟩
  have hps : p = 8 * m + s := by omega
  have hs8 : s < 8 := by omega
  have d1 : (p : Int) / 8 = (m : Int) := by omega
  have d2 : (p : Int) % 8 = (s : Int) := by omega
  rw [← hm] at ha hbt hp8
  have HBT := Lib.hid hbt
  have HPS := Lib.hid hps
  have hp0 : ¬ (p : Int) < 0 := by omega
  have hp1 : ¬ (p : Int) ≥ (ys.length : Int) * 8 := by omega
  clear hb hy hbt hm hs hps
  go_enter Try.func21, Try.ntmps21
  by_cases hff : y = 255
  · subst hff
    have hpre : ∀ q, p ≤ q → q < 8 * (m + 1) → bitAt ys q = true := fun q h1 h2 => by
      have := HBT.out (q - 8 * m) (by have := HPS.out; omega)
      rw [show 8 * m + (q - 8 * m) = q from by have := HPS.out; omega] at this
      rw [this]; exact bt_all_255 (by have := HPS.out; omega)
    have HPRE := Lib.hid hpre
    clear hpre
    go_wp2
    go_loop [10] (fun i => ∃ k : Nat, m + 1 ≤ k ∧ k ≤ ys.length ∧ i = .int .i64 k ∧ ∀ q, p ≤ q → q < 8 * k → bitAt ys q = true) (fun i => ys.length - (intOf i).toNat)
    case atStart => exact ⟨m + 1, by omega, by omega, by go_num, HPRE.out⟩
    case round =>
      obtain ⟨k, hk0, hk, rfl, hno⟩ := hrel
      have HN := Lib.hid hno
      clear hno
      by_cases hlt : k < ys.length
      · have ha2 := HB.out.at k hlt
        have hyb2 := HB.out.byt.at hlt
        have hbt2 : ∀ j, j < 8 → bitAt ys (8 * k + j) = bt (ys.getD k 0) j := fun j hj => by rw [bitAt_bt, show (8 * k + j) / 8 = k from by omega, show (8 * k + j) % 8 = j from by omega]
        obtain ⟨z, hz⟩ : ∃ z, z = ys.getD k 0 := ⟨_, rfl⟩
        rw [← hz] at ha2 hyb2 hbt2
        have HBT2 := Lib.hid hbt2
        clear hz hbt2
        by_cases h0 : z = 255
        · subst h0
          go_wp2
          go_round
          case rel => exact ⟨k + 1, by omega, by omega, by go_num, fun q h1 hq => by
            rcases Nat.lt_or_ge q (8 * k) with h4 | h4
            · exact HN.out q h1 h4
            · have := HBT2.out (q - 8 * k) (by omega)
              rw [show 8 * k + (q - 8 * k) = q from by omega] at this
              rw [this]; exact bt_all_255 (by omega)⟩
          case measure => simp [intOf]; omega
        · have h0' : (z == 255) = false := by simpa using h0
          go_wp2
          go_loop [11] (fun i => ∃ j : Nat, j ≤ 8 ∧ i = .int .u8 j ∧ ∀ q, q < j → bt z q = true) (fun i => 8 - (intOf i).toNat)
          case atStart => exact ⟨0, by omega, by go_num, fun q h => by omega⟩
          case round =>
            obtain ⟨j, hj, rfl, hnj⟩ := hrel
            have HJ2 := Lib.hid hnj
            clear hnj
            by_cases hj8 : j < 8
            · cases hbj : bt z j with
              | false =>
                have hand := and_no hyb2.1 hyb2.2 hj8 hbj
                have HBJ := Lib.hid hbj
                clear hbj
                go_wp2
                go_ret
                refine ⟨⟨((8 * k + j : Nat) : Int), ret_int (by omega), .inr ⟨8 * k + j, rfl, by have := HPS.out; omega, ?_, fun q h1 h2 => ?_⟩⟩, rfl⟩
                · rw [bitsOf_get ys _ (by omega), HBT2.out j hj8, HBJ.out]
                · rw [bitsOf_get ys _ (by omega)]
                  rcases Nat.lt_or_ge q (8 * k) with h4 | h4
                  · rw [HN.out q h1 h4]; rfl
                  · have := HBT2.out (q - 8 * k) (by omega)
                    rw [show 8 * k + (q - 8 * k) = q from by omega] at this
                    rw [this, HJ2.out _ (by omega)]; rfl
              | true =>
                have hand := and_yes hyb2.1 hyb2.2 hj8 hbj
                have HBJ := Lib.hid hbj
                clear hbj
                go_wp2
                go_round
                case rel => exact ⟨j + 1, by omega, by go_num, fun q hq => by
                  rcases Nat.lt_or_ge q j with h4 | h4
                  · exact HJ2.out q h4
                  · obtain rfl : q = j := by omega
                    exact HBJ.out⟩
                case measure => simp [intOf]; omega
            · obtain rfl : j = 8 := by omega
              go_wp2
              go_round
              case rel => exact ⟨k + 1, by omega, by omega, by go_num, fun q h1 hq => by
                rcases Nat.lt_or_ge q (8 * k) with h4 | h4
                · exact HN.out q h1 h4
                · have := HBT2.out (q - 8 * k) (by omega)
                  rw [show 8 * k + (q - 8 * k) = q from by omega] at this
                  rw [this]; exact HJ2.out _ (by omega)⟩
              case measure => simp [intOf]; omega
      · obtain rfl : k = ys.length := by omega
        go_wp2
        go_ret
        exact ⟨⟨_, rfl, .inl ⟨rfl, fun j h1 h2 => by rw [bitsOf_len] at h2; rw [bitsOf_get ys j h2, HN.out j h1 h2]; rfl⟩⟩, rfl⟩
  · have hff' : (y == 255) = false := by simpa using hff
    go_wp2
    go_loop [9] (fun i => ∃ j : Nat, s ≤ j ∧ j ≤ 8 ∧ i = .int .u8 j ∧ ∀ q, s ≤ q → q < j → bt y q = true) (fun i => 8 - (intOf i).toNat)
    case atStart => exact ⟨s, by omega, by omega, by go_num, fun q h1 h2 => by omega⟩
    case round =>
      obtain ⟨j, hj0, hj, rfl, hnj⟩ := hrel
      have HJ := Lib.hid hnj
      clear hnj
      by_cases hj8 : j < 8
      · cases hbj : bt y j with
        | false =>
          have hand := and_no hyb.1 hyb.2 hj8 hbj
          have HBJ := Lib.hid hbj
          clear hbj
          go_wp2
          go_ret
          refine ⟨⟨((8 * m + j : Nat) : Int), ret_int (by omega), .inr ⟨8 * m + j, rfl, by have := HPS.out; omega, ?_, fun q h1 h2 => ?_⟩⟩, rfl⟩
          · rw [bitsOf_get ys _ (by omega), HBT.out j hj8, HBJ.out]
          · rw [bitsOf_get ys _ (by omega)]
            have hq := HPS.out
            have := HBT.out (q - 8 * m) (by omega)
            rw [show 8 * m + (q - 8 * m) = q from by omega] at this
            rw [this, HJ.out _ (by omega) (by omega)]; rfl
        | true =>
          have hand := and_yes hyb.1 hyb.2 hj8 hbj
          have HBJ := Lib.hid hbj
          clear hbj
          go_wp2
          go_round
          case rel => exact ⟨j + 1, by omega, by omega, by go_num, fun q h1 hq => by
            rcases Nat.lt_or_ge q j with h4 | h4
            · exact HJ.out q h1 h4
            · obtain rfl : q = j := by omega
              exact HBJ.out⟩
          case measure => simp [intOf]; omega
      · obtain rfl : j = 8 := by omega
        have hpre : ∀ q, p ≤ q → q < 8 * (m + 1) → bitAt ys q = true := fun q h1 h2 => by
          have hq := HPS.out
          have := HBT.out (q - 8 * m) (by omega)
          rw [show 8 * m + (q - 8 * m) = q from by omega] at this
          rw [this]; exact HJ.out _ (by omega) (by omega)
        have HPRE := Lib.hid hpre
        clear hpre
        go_wp2
        go_loop [10] (fun i => ∃ k : Nat, m + 1 ≤ k ∧ k ≤ ys.length ∧ i = .int .i64 k ∧ ∀ q, p ≤ q → q < 8 * k → bitAt ys q = true) (fun i => ys.length - (intOf i).toNat)
        case atStart => exact ⟨m + 1, by omega, by omega, by go_num, HPRE.out⟩
        case round =>
          obtain ⟨k, hk0, hk, rfl, hno⟩ := hrel
          have HN := Lib.hid hno
          clear hno
          by_cases hlt : k < ys.length
          · have ha2 := HB.out.at k hlt
            have hyb2 := HB.out.byt.at hlt
            have hbt2 : ∀ j, j < 8 → bitAt ys (8 * k + j) = bt (ys.getD k 0) j := fun j hj => by rw [bitAt_bt, show (8 * k + j) / 8 = k from by omega, show (8 * k + j) % 8 = j from by omega]
            obtain ⟨z, hz⟩ : ∃ z, z = ys.getD k 0 := ⟨_, rfl⟩
            rw [← hz] at ha2 hyb2 hbt2
            have HBT2 := Lib.hid hbt2
            clear hz hbt2
            by_cases h0 : z = 255
            · subst h0
              go_wp2
              go_round
              case rel => exact ⟨k + 1, by omega, by omega, by go_num, fun q h1 hq => by
                rcases Nat.lt_or_ge q (8 * k) with h4 | h4
                · exact HN.out q h1 h4
                · have := HBT2.out (q - 8 * k) (by omega)
                  rw [show 8 * k + (q - 8 * k) = q from by omega] at this
                  rw [this]; exact bt_all_255 (by omega)⟩
              case measure => simp [intOf]; omega
            · have h0' : (z == 255) = false := by simpa using h0
              go_wp2
              go_loop [11] (fun i => ∃ j : Nat, j ≤ 8 ∧ i = .int .u8 j ∧ ∀ q, q < j → bt z q = true) (fun i => 8 - (intOf i).toNat)
              case atStart => exact ⟨0, by omega, by go_num, fun q h => by omega⟩
              case round =>
                obtain ⟨j, hj, rfl, hnj⟩ := hrel
                have HJ2 := Lib.hid hnj
                clear hnj
                by_cases hj8 : j < 8
                · cases hbj : bt z j with
                  | false =>
                    have hand := and_no hyb2.1 hyb2.2 hj8 hbj
                    have HBJ := Lib.hid hbj
                    clear hbj
                    go_wp2
                    go_ret
                    refine ⟨⟨((8 * k + j : Nat) : Int), ret_int (by omega), .inr ⟨8 * k + j, rfl, by have := HPS.out; omega, ?_, fun q h1 h2 => ?_⟩⟩, rfl⟩
                    · rw [bitsOf_get ys _ (by omega), HBT2.out j hj8, HBJ.out]
                    · rw [bitsOf_get ys _ (by omega)]
                      rcases Nat.lt_or_ge q (8 * k) with h4 | h4
                      · rw [HN.out q h1 h4]; rfl
                      · have := HBT2.out (q - 8 * k) (by omega)
                        rw [show 8 * k + (q - 8 * k) = q from by omega] at this
                        rw [this, HJ2.out _ (by omega)]; rfl
                  | true =>
                    have hand := and_yes hyb2.1 hyb2.2 hj8 hbj
                    have HBJ := Lib.hid hbj
                    clear hbj
                    go_wp2
                    go_round
                    case rel => exact ⟨j + 1, by omega, by go_num, fun q hq => by
                      rcases Nat.lt_or_ge q j with h4 | h4
                      · exact HJ2.out q h4
                      · obtain rfl : q = j := by omega
                        exact HBJ.out⟩
                    case measure => simp [intOf]; omega
                · obtain rfl : j = 8 := by omega
                  go_wp2
                  go_round
                  case rel => exact ⟨k + 1, by omega, by omega, by go_num, fun q h1 hq => by
                    rcases Nat.lt_or_ge q (8 * k) with h4 | h4
                    · exact HN.out q h1 h4
                    · have := HBT2.out (q - 8 * k) (by omega)
                      rw [show 8 * k + (q - 8 * k) = q from by omega] at this
                      rw [this]; exact HJ2.out _ (by omega)⟩
                  case measure => simp [intOf]; omega
          · obtain rfl : k = ys.length := by omega
            go_wp2
            go_ret
            exact ⟨⟨_, rfl, .inl ⟨rfl, fun j h1 h2 => by rw [bitsOf_len] at h2; rw [bitsOf_get ys j h2, HN.out j h1 h2]; rfl⟩⟩, rfl⟩
end Go.Proofs.Ytbajengoblcmnaa
