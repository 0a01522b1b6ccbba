/- Words for FnUnique: a slice whose numbers are known; a map that is a set; keys collected. And the walk of hasInt. -/
import Derived.Test.YtginjbmjofkomaaAid
import Derived.Maps.RangeWalk
import Derived.Sort.OwnSorted
import Derived.Deep.AppendLies
namespace Go.Proofs.Ytginjbmjofkomaa
open Go.RowKit Go.Maps

/-- the numbers of a slice lie behind its address, below block B -/
def IntsAt (w : World) (B : Nat) (A : Option Addr) (zs : List Int) : Prop :=
  ∀ j, j < zs.length → ∃ ad, A = some ad ∧ ad.block < B ∧ w.cell? (ad.add j) = some (.int .i64 (zs.getD j 0))

theorem addr_block (a : Addr) (n : Nat) : (a.add n).block = a.block := by unfold Addr.add; split <;> rfl

theorem IntsAt.below {w w' : World} {B : Nat} {A : Option Addr} {zs : List Int} (h : IntsAt w B A zs) (hb : Below B w w') : IntsAt w' B A zs := fun j hj => by
  obtain ⟨ad, e, hl, hc⟩ := h j hj
  exact ⟨ad, e, hl, (hb.cell (p := ad.add j) (by rw [addr_block]; exact hl)).trans hc⟩
theorem IntsAt.more {w : World} {B B' : Nat} {A : Option Addr} {zs : List Int} (h : IntsAt w B A zs) (hB : B ≤ B') : IntsAt w B' A zs := fun j hj => by
  obtain ⟨ad, e, hl, hc⟩ := h j hj
  exact ⟨ad, e, by omega, hc⟩
theorem IntsAt.take {w : World} {B : Nat} {A : Option Addr} {zs : List Int} (h : IntsAt w B A zs) (m : Nat) : IntsAt w B A (zs.take m) := fun j hj => by
  have h1 : j < m ∧ j < zs.length := by rw [List.length_take] at hj; omega
  obtain ⟨ad, e, hl, hc⟩ := h j h1.2
  refine ⟨ad, e, hl, hc.trans ?_⟩
  simp [List.getD, List.getElem?_take_of_lt h1.1]
theorem IntsAt.of_own {w : World} {base e n : Nat} {A : Option Addr} {c : Nat} {zs : List Int} (h : w.ownsRow base e 1 (.slice A n c) n (zs.map (.int .i64))) : IntsAt w w.heap.size A zs := fun j hj => by
  have hn : 0 < n := by have := h.1; simp at this; omega
  obtain ⟨g, cap, hv, _, hlt⟩ := h.form hn
  have hA : A = some ⟨g, 0, none⟩ := by injection hv
  subst hA
  refine ⟨_, rfl, hlt, h.cells (g := g) rfl j _ ?_⟩
  simp [List.getD, List.getElem?_eq_getElem hj]

theorem getD_get {zs : List Int} {k : Nat} (hk : k < zs.length) : zs.getD k 0 = zs[k] := by simp [List.getD, List.getElem?_eq_getElem hk]
/-- is a number among them? -/
def memB (x : Int) (zs : List Int) : Bool := decide (x ∈ zs)

theorem memB_yes {x : Int} {zs : List Int} {k : Nat} (hk : k < zs.length) (h : x = zs.getD k 0) : memB x zs = true := by
  unfold memB
  rw [decide_eq_true_eq, h, getD_get hk]
  exact List.getElem_mem hk
theorem memB_no {x : Int} {zs : List Int} (h : x ∉ zs.take zs.length) : memB x zs = false := by
  rw [List.take_length] at h
  simp [memB, h]
theorem take_next {x y : Int} {zs : List Int} {k : Nat} (hk : k < zs.length) (hn : x ∉ zs.take k) (hy : y = zs.getD k 0) (hne : ¬ y = x) : x ∉ zs.take (k + 1) := by
  rw [List.take_succ_eq_append_getElem hk, List.mem_append]
  rw [getD_get hk] at hy
  rintro (h | h)
  · exact hn h
  · simp at h; exact hne (by rw [hy, h])
theorem ret_bool {a b : Bool} (h : a = b) : Ending.returned (.bool a) = .returned (.bool b) := by rw [h]

set_option maxHeartbeats 400000 in
theorem hasInt_any (A : Option Addr) (n c B : Nat) (zs : List Int) (x : Int) (w : World) (hz : zs.length = n) (hm : n ≤ 9223372036854775807) (h : IntsAt w B A zs) :
    Calls Try.prog 7 #[.slice A n c, .int .i64 x] w fun e w' => e = .returned (.bool (memB x zs)) ∧ w = w' := by
  have HI := Lib.hid h
  have HZ := Lib.hid hz
  clear h hz
  go_enter Try.func7, Try.ntmps7
  go_wp2
  go_loop [9] (fun i => ∃ k : Nat, k ≤ n ∧ i = .int .i64 k ∧ x ∉ zs.take k) (fun i => n - (intOf i).toNat)
  case atStart => exact ⟨0, Nat.zero_le _, rfl, by simp⟩
  case round =>
    obtain ⟨k, hk, rfl, hnot⟩ := hrel
    have HN := Lib.hid hnot
    clear hnot
    by_cases hlt : k < n
    · obtain ⟨ad, rfl, _, hc⟩ := HI.out k (by rw [HZ.out]; exact hlt)
      obtain ⟨y, hy⟩ : ∃ y, y = zs.getD k 0 := ⟨_, rfl⟩
      rw [← hy] at hc
      have HY := Lib.hid hy
      clear hy
      by_cases he : y = x
      · subst he
        go_wp2
        go_ret
        exact ⟨ret_bool (memB_yes (by rw [HZ.out]; exact hlt) HY.out).symm, rfl⟩
      · have he' : (y == x) = false := by simpa using he
        go_wp2
        go_round
        case rel => exact ⟨k + 1, by omega, by go_num, take_next (by rw [HZ.out]; exact hlt) HN.out HY.out he⟩
        case measure => simp [intOf]; omega
    · go_wp2
      go_ret
      have e : k = zs.length := by rw [HZ.out]; omega
      exact ⟨ret_bool (memB_no (e ▸ HN.out)).symm, rfl⟩

end Go.Proofs.Ytginjbmjofkomaa
