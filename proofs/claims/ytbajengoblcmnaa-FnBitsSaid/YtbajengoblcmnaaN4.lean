/- Walks of the model's next, and of FirstSet. -/
import Derived.Test.YtbajengoblcmnaaN3
namespace Go.Proofs.Ytbajengoblcmnaa
open Go.RowKit
set_option linter.unusedVariables false

/-- Bools in a row -/
def BoolsAt (w : World) (A : Option Addr) (bs : List Bool) : Prop := ∀ i, i < bs.length → ∃ g, A = some ⟨g, 0, none⟩ ∧ g < w.heap.size ∧ w.cell? ⟨g, i, none⟩ = some (.bool (bs.getD i false))
theorem getD_get? {bs : List Bool} {i : Nat} {d : Bool} (h : i < bs.length) : bs[i]? = some (bs.getD i d) := by
  rw [List.getD_eq_getElem?_getD, List.getElem?_eq_getElem h]
  rfl
theorem BoolsAt.below {w w' : World} {A : Option Addr} {bs : List Bool} (h : BoolsAt w A bs) (hb : Below w.heap.size w w') : BoolsAt w' A bs := fun i hi => by
  obtain ⟨g, e, hg, hc⟩ := h i hi
  exact ⟨g, e, Nat.lt_of_lt_of_le hg hb.size, (hb.cell (p := ⟨g, i, none⟩) hg).trans hc⟩
theorem ret_int {a b : Int} (h : a = b) : Ending.returned (.int .i64 a) = .returned (.int .i64 b) := by rw [h]

set_option maxHeartbeats 400000 in
theorem next_any (A : Option Addr) (n c i0 : Nat) (bs : List Bool) (b : Bool) (w : World) (hz : bs.length = n) (hm : n ≤ 100000) (h0 : i0 ≤ 100000) (h : BoolsAt w A bs) :
    Calls Try.prog 11 #[.slice A n c, .int .i64 (i0 : Int), .bool b] w fun e w' => (∃ r, e = .returned (.int .i64 r) ∧ NextIs bs i0 b r) ∧ w = w' := by
  have HI := Lib.hid h
  have HZ := Lib.hid hz
  clear h hz
  have hmax : ¬ (i0 : Int) < 0 := by omega
  go_enter Try.func11, Try.ntmps11
  go_wp2
  go_loop [7] (fun i => ∃ k : Nat, i0 ≤ k ∧ k ≤ i0 + n ∧ i = .int .i64 k ∧ ∀ j, i0 ≤ j → j < k → j < n → bs[j]? = some (!b)) (fun i => n - (intOf i).toNat)
  case atStart => exact ⟨i0, Nat.le_refl _, by omega, by go_num, fun j h1 h2 => by omega⟩
  case round =>
    obtain ⟨k, hk1, hk2, rfl, hnot⟩ := hrel
    have HN := Lib.hid hnot
    clear hnot
    by_cases hlt : k < n
    · obtain ⟨g, rfl, _, hc⟩ := HI.out k (by rw [HZ.out]; exact hlt)
      obtain ⟨y, hy⟩ : ∃ y, y = bs.getD k false := ⟨_, rfl⟩
      rw [← hy] at hc
      have hy2 : bs[k]? = some y := by rw [hy]; exact getD_get? (by rw [HZ.out]; exact hlt)
      have HY := Lib.hid hy2
      clear hy hy2
      by_cases he : y = b
      · subst he
        go_wp2
        go_ret
        exact ⟨⟨_, rfl, .inr ⟨k, rfl, hk1, HY.out, fun j h1 h2 => HN.out j h1 h2 (by omega)⟩⟩, rfl⟩
      · have he' : (y == b) = false := by simpa using he
        go_wp2
        go_round
        case rel => exact ⟨k + 1, by omega, by omega, by go_num, fun j h1 h2 h3 => by
          rcases Nat.lt_or_ge j k with h4 | h4
          · exact HN.out j h1 h4 h3
          · obtain rfl : j = k := by omega
            rw [HY.out]; congr 1; cases y <;> cases b <;> simp_all⟩
        case measure => simp [intOf]; omega
    · go_wp2
      go_ret
      exact ⟨⟨_, rfl, .inl ⟨rfl, fun j h1 h2 => HN.out j h1 (by have := HZ.out; omega) (by rw [← HZ.out]; exact h2)⟩⟩, rfl⟩
end Go.Proofs.Ytbajengoblcmnaa
