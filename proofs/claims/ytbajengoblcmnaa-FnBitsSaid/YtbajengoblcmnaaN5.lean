/- Walk of FirstSet. -/
import Derived.Test.YtbajengoblcmnaaN4
namespace Go.Proofs.Ytbajengoblcmnaa
open Go.RowKit
set_option linter.unusedVariables false

theorem and_no {b : Int} (h0 : 0 ≤ b) (h1 : b < 256) {j : Nat} (hj : j < 8) (h : bt b j = false) : bits BinOp.and IntKind.u8 b (2 ^ j % 256) = 0 := by
  rw [and_bit h0 h1 hj, h]; rfl
theorem and_yes {b : Int} (h0 : 0 ≤ b) (h1 : b < 256) {j : Nat} (hj : j < 8) (h : bt b j = true) : ¬ bits BinOp.and IntKind.u8 b (2 ^ j % 256) = 0 := by
  rw [and_bit h0 h1 hj, h]
  have : (0 : Int) < 2 ^ j := Int.pow_pos (by omega)
  simp only [if_true]
  omega

set_option maxHeartbeats 400000 in
theorem fs_any (g h : Nat) (ys : List Int) (w : World) (hb : BmAt w g h ys) (hn : ys.length ≤ 1000) :
    Calls Try.prog 22 #[.pointer (some ⟨g, 0, none⟩)] w fun e w' => (∃ r, e = .returned (.int .i64 r) ∧ NextIs (bitsOf ys) 0 true r) ∧ w = w' := by
  have HB := Lib.hid hb
  have hc := hb.cell
  clear hb
  go_enter Try.func22, Try.ntmps22
  go_wp2
  go_loop [11] (fun i => ∃ k : Nat, k ≤ ys.length ∧ i = .int .i64 k ∧ ∀ q, q < 8 * k → bitAt ys q = false) (fun i => ys.length - (intOf i).toNat)
  case atStart => exact ⟨0, by omega, by go_num, fun q h => by omega⟩
  case round =>
    obtain ⟨k, hk, rfl, hno⟩ := hrel
    have HN := Lib.hid hno
    clear hno
    by_cases hlt : k < ys.length
    · have ha := HB.out.at k hlt
      have hyb := HB.out.byt.at hlt
      have hbt : ∀ j, j < 8 → bitAt ys (8 * k + j) = bt (ys.getD k 0) j := fun j hj => by rw [bitAt_bt, show (8 * k + j) / 8 = k from by omega, show (8 * k + j) % 8 = j from by omega]
      obtain ⟨y, hy⟩ : ∃ y, y = ys.getD k 0 := ⟨_, rfl⟩
      rw [← hy] at ha hyb hbt
      have HBT := Lib.hid hbt
      clear hy hbt
      by_cases h0 : y = 0
      · subst h0
        go_wp2
        go_round
        case rel => exact ⟨k + 1, by omega, by go_num, fun q hq => by
          rcases Nat.lt_or_ge q (8 * k) with h4 | h4
          · exact HN.out q h4
          · have := HBT.out (q - 8 * k) (by omega)
            rw [show 8 * k + (q - 8 * k) = q from by omega] at this
            rw [this]; exact bt_all_0 (by omega)⟩
        case measure => simp [intOf]; omega
      · have h0' : (y == 0) = false := by simpa using h0
        go_wp2
        go_loop [5] (fun i => ∃ j : Nat, j ≤ 8 ∧ i = .int .u8 j ∧ ∀ q, q < j → bt y q = false) (fun i => 8 - (intOf i).toNat)
        case atStart => exact ⟨0, by omega, by go_num, fun q h => by omega⟩
        case round =>
          obtain ⟨j, hj, rfl, hnj⟩ := hrel
          have HJ := Lib.hid hnj
          clear hnj
          by_cases hj8 : j < 8
          · cases hbj : bt y j with
            | true =>
              have hand := and_yes hyb.1 hyb.2 hj8 hbj
              have HBJ := Lib.hid hbj
              clear hbj
              go_wp2
              go_ret
              refine ⟨⟨((8 * k + j : Nat) : Int), ret_int (by omega), .inr ⟨8 * k + j, rfl, by omega, ?_, fun q h1 h2 => ?_⟩⟩, rfl⟩
              · rw [bitsOf_get ys _ (by omega), HBT.out j hj8, HBJ.out]
              · rw [bitsOf_get ys _ (by omega)]
                rcases Nat.lt_or_ge q (8 * k) with h4 | h4
                · rw [HN.out q h4]; rfl
                · have := HBT.out (q - 8 * k) (by omega)
                  rw [show 8 * k + (q - 8 * k) = q from by omega] at this
                  rw [this, HJ.out _ (by omega)]; rfl
            | false =>
              have hand := and_no hyb.1 hyb.2 hj8 hbj
              have HBJ := Lib.hid hbj
              clear hbj
              go_wp2
              go_round
              case rel => exact ⟨j + 1, by omega, by go_num, fun q hq => by
                rcases Nat.lt_or_ge q j with h4 | h4
                · exact HJ.out q h4
                · obtain rfl : q = j := by omega
                  exact HBJ.out⟩
              case measure => simp [intOf]; omega
          · obtain rfl : j = 8 := by omega
            go_wp2
            go_round
            case rel => exact ⟨k + 1, by omega, by go_num, fun q hq => by
              rcases Nat.lt_or_ge q (8 * k) with h4 | h4
              · exact HN.out q h4
              · have := HBT.out (q - 8 * k) (by omega)
                rw [show 8 * k + (q - 8 * k) = q from by omega] at this
                rw [this]; exact HJ.out _ (by omega)⟩
            case measure => simp [intOf]; omega
    · obtain rfl : k = ys.length := by omega
      go_wp2
      go_ret
      exact ⟨⟨_, rfl, .inl ⟨rfl, fun j h1 h2 => by rw [bitsOf_len] at h2; rw [bitsOf_get ys j h2, HN.out j h2]; rfl⟩⟩, rfl⟩
end Go.Proofs.Ytbajengoblcmnaa
