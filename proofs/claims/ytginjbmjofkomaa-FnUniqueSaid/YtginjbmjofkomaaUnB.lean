/- Walk of slices.Uniqify: what it hands back has no number twice, and holds just the numbers that came in. -/
import Derived.Test.YtginjbmjofkomaaUnA
namespace Go.Proofs.Ytginjbmjofkomaa
open Go.RowKit Go.Maps

theorem law3 : Keyed Try.prog 3 := int_keyed Try.underlying3
theorem Try.info3 : (Try.prog.info? 3).map (fun i => (i.zero, i.size, i.bytes)) = some (some (.int .i64 0), 1, 8) := by kernel_rfl

/-- the map's keys are just those numbers -/
def KeysAre (D : DataW Unit) (l : List Int) : Prop := ∀ x, Maps.has D (.int .i64 x) = true ↔ x ∈ l
theorem keysAre_nil : KeysAre (.map []) [] := fun x => by simp [Maps.has]
theorem lit_ne {x y : Int} (h : x ≠ y) : Lit.int .i64 x ≠ Lit.int .i64 y := fun e => h (by injection e)
theorem KeysAre.step {D : DataW Unit} {zs : List Int} {k : Nat} {y : Int} (h : KeysAre D (zs.take k)) (hD : IsMap D) (hk : k < zs.length) (hy : y = zs.getD k 0) (hw : WideAt.IsKeyLit (.int .i64 y)) :
    KeysAre (D.put (.int .i64 y) (.lit (.bool true))) (zs.take (k + 1)) := fun x => by
  rw [List.take_succ_eq_append_getElem hk, List.mem_append, List.mem_singleton, ← getD_get hk, ← hy]
  by_cases e : x = y
  · subst e
    simp [has_put_same hD hw]
  · rw [has_put_other (lit_ne e), h x]
    simp [e]
theorem map_size_le {w : World} {k : TypeId} {R : Value → Option (DataW Unit × List MemPlace)} {b n : Nat} {D : DataW Unit} (h : w.ownsMap Try.prog k R b n D) : Maps.size D ≤ n := by
  obtain ⟨es, clock, _, _, hs, rfl⟩ := h
  rw [size_eq, length_sorted]
  simpa using hs

/-- the keys met so far: no key twice; a key is on the list just where the map has it and it is no longer to come -/
def Got (D : DataW Unit) (left : Lit → Bool) (ss : List Int) : Prop := ss.Nodup ∧ ∀ x, x ∈ ss ↔ (Maps.has D (.int .i64 x) = true ∧ left (.int .i64 x) = false)
theorem Got.start (D : DataW Unit) : Got D (Maps.has D) [] := ⟨List.nodup_nil, fun x => by cases Maps.has D (.int .i64 x) <;> simp⟩
theorem Got.step {D : DataW Unit} {left : Lit → Bool} {ss : List Int} (h : Got D left ss) {x : Int} {y : DataW Unit} (hlk : left (.int .i64 x) = true) (hat : ∀ zd, D.atKey (.int .i64 x) zd = y) :
    Got D (fun z => left z && !z.sameKey (.int .i64 x)) (ss ++ [x]) := by
  have hhas : Maps.has D (.int .i64 x) = true := has_true_of_atKey hat
  have hnew : x ∉ ss := fun hx => by have := ((h.2 x).1 hx).2; rw [hlk] at this; cases this
  refine ⟨List.nodup_append.2 ⟨h.1, by simp, fun a ha b hb => by simp at hb; subst hb; exact fun e => hnew (e ▸ ha)⟩, fun y => ?_⟩
  by_cases hy : y = x
  · subst hy; simp [hhas, Lit.sameKey]
  · simp [h.2 y, hy, Lit.sameKey]
theorem Got.done {D : DataW Unit} {left : Lit → Bool} {ss zs : List Int} (h : Got D left ss) (hl : ∀ kl, left kl = false) (hK : KeysAre D zs) : ∀ x, x ∈ ss ↔ x ∈ zs := fun x => by
  rw [h.2 x, hl, ← hK x]; simp

theorem keyLit (x : Int) (h : (Lit.int .i64 x).wf = true) : WideAt.IsKeyLit (.int .i64 x) := law3.key (keyOf_int_mk Try.underlying3 h)

set_option maxRecDepth 100000 in
set_option maxHeartbeats 1000000 in
theorem uniq_any (A : Option Addr) (n c : Nat) (zs : List Int) (w : World) (hz : zs.length = n) (hm : n ≤ 1000) (hwf : ∀ x ∈ zs, (Lit.int .i64 x).wf = true) (h : IntsAt w w.heap.size A zs) :
    Calls Try.prog 12 #[.slice A n c] w fun e w' => ∃ (g cap : Nat) (ss : List Int), e = .returned (.slice (some ⟨g, 0, none⟩) ss.length cap) ∧ ss.Nodup ∧ (∀ x, x ∈ ss ↔ x ∈ zs) ∧ ss.length ≤ n ∧ ss.length ≤ cap ∧
      w'.ownsRow (w.heap.size + 1) 3 1 (.slice (some ⟨g, 0, none⟩) ss.length cap) ss.length (ss.map (.int .i64)) ∧ Below w.heap.size w w' := by
  have HI := Lib.hid h
  have HZ := Lib.hid hz
  have HW := Lib.hid hwf
  clear h hz hwf
  obtain ⟨i0, hi, hz0, hz1, hz2⟩ := info_parts Try.info3
  have HB := Lib.hid hz2
  clear hz2
  have hmm := @run_makeMap Try.prog
  go_enter Try.func12, Try.ntmps12
  go_wp2
  go_loopw [11] (fun i wr => ∃ (k : Nat) (D : DataW Unit), k ≤ n ∧ i = .int .i64 k ∧ wr.ownsMap Try.prog 3 (plainElem Try.prog 4) w.heap.size k D ∧ KeysAre D (zs.take k) ∧ Below w.heap.size w wr) (fun i _ => n - (intOf i).toNat)
  case atStart => exact ⟨0, _, Nat.zero_le _, rfl, World.ownsMap_made _ _ _ _, keysAre_nil, (Below.refl _ _).alloc (Nat.le_refl _) _⟩
  case round =>
    obtain ⟨k, D, hk, rfl, hown, hK, hnx⟩ := hrel
    have HK := Lib.hid hK
    clear hK
    by_cases hlt : k < n
    · obtain ⟨ad, rfl, hadb, hc⟩ := (HI.out.below hnx) k (by rw [HZ.out]; exact hlt)
      obtain ⟨y, hy⟩ : ∃ y, y = zs.getD k 0 := ⟨_, rfl⟩
      rw [← hy] at hc
      have hwy : (Lit.int .i64 y).wf = true := HW.out y (by rw [hy, getD_get (by rw [HZ.out]; exact hlt)]; exact List.getElem_mem _)
      have HY := Lib.hid hy
      clear hy
      go_wp2_with (first
        | (at_mapUpdate; refine wpList_mapUpdate_own _ rfl _ _ _ 43 rfl 3 4 law3 Try.underlying43 _ w.heap.size k _ rfl hown (by unfold maxLen; omega) _ _ _ rfl rfl (keyOf_int_mk Try.underlying3 hwy) _ [] (plainElem_bool Try.underlying4 true) ?_; intro w1 hown1 hgrow1)
        | go_in)
      go_roundw
      case rel => exact ⟨k + 1, _, by omega, by go_num, hown1, HK.out.step (hown.tidy law3).isMap (by rw [HZ.out]; exact hlt) HY.out (keyLit y hwy), hnx.grown hgrow1 hnx.size (fun j hj => by cases hj; exact Nat.le_refl _)⟩
      case measure => simp [intOf]; omega
    · obtain rfl : k = n := by omega
      have hsz : Maps.size D ≤ k := map_size_le hown
      have hbl := hown.lt
      go_wp2_with (first
        | (at_len; refine wpList_len_own _ rfl _ 43 rfl 3 4 Try.underlying43 _ w.heap.size k _ rfl hown ?_)
        | (at_make; refine wpList_make_own _ rfl _ _ 22 rfl (w.heap.size + 1) 3 i0 (.int .i64 0) 1 Try.underlying22 hi hz0 hz1 _ _ _ (Maps.size D) rfl rfl rfl (by rw [HB.out]; omega) (by unfold maxLen; omega) hbl ?_; intro w1 hrow1 hg1)
        | (at_range; refine wpList_range_own _ rfl _ 43 rfl 3 4 law3 Try.underlying43 _ w.heap.size k _ rfl (hown.kept hg1 (by simp)) ?_; intro w0 hrg0 hg0 hs0)
        | go_in)
      have HH := Lib.hid HK.out
      clear HK
      go_frame
      go_loopw [6] (fun v wr => ∃ (left : Lit → Bool) (cnt : Nat) (ss : List Int), wr.ranges Try.prog 3 (plainElem Try.prog 4) w.heap.size w1.heap.size k D left cnt ∧ ss.length + cnt ≤ Maps.size D ∧
          wr.ownsRow (w.heap.size + 1) 3 1 v ss.length (ss.map (.int .i64)) ∧ v ≠ .slice none 0 0 ∧ Got D left ss ∧ Below w.heap.size w wr)
        (fun _ wr => wr.rangeLeft w.heap.size w1.heap.size)
      case atStart =>
        exact ⟨_, _, [], hrg0, by simp, hrow1.kept hg0 (Or.inr (by simp [Value.ownBlock])), by simp, Got.start D,
          (hnx.grown hg1 hnx.size (fun j hj => by cases hj)).grown hg0 (by have := hnx.size; have := hg1.size; omega) (fun j hj => by cases hj)⟩
      case round =>
        obtain ⟨left, cnt, ss, hrg, hcs, hrow, hnn, hC, hnx2⟩ := hrel
        go_wp2_with (first
          | (at_next; refine wpList_next_ranges _ rfl _ rfl 3 law3 (plainElem Try.prog 4) (Value.int .i64) (fun v : Value => v) (fun key kl hk => by obtain ⟨x, hx, _⟩ := Maps.keyOf_int_inv Try.underlying3 hk; exact ⟨x, hx⟩) (fun v y hv => ⟨v, rfl⟩) w.heap.size w1.heap.size k _ _ _ rfl hrg ?_ ?_)
          | go_in)
        · intro hc0 hl0
          go_wp2
          go_ret
          rcases hrow.2 with ⟨hnil, _⟩ | ⟨g, cap, cur, hv, hbase, hb, h1, h2, h3, h4⟩
          · exact absurd hnil hnn
          subst hv
          refine ⟨g, cap, ss, rfl, hC.1, ?_, by omega, h1, hrow, hnx2⟩
          have hd := hC.done hl0 HH.out
          rw [List.take_of_length_le (by rw [HZ.out]; exact Nat.le_refl _)] at hd
          exact hd
        · intro x c kl yd yp w2 cnt2 hkey hlk hv hat hrg2 hlt2 hg2 hs2 hen
          obtain ⟨x', ex, rfl, _⟩ := Maps.keyOf_int_inv Try.underlying3 hkey
          obtain rfl : x = x' := by injection ex
          have hrow2 := hrow.kept hg2 (Or.inr (row_ne_iter hrow hrg).symm)
          clear hs2
          go_wp2_with (first
            | (at_builtin; refine wpList_append_own _ rfl _ _ 22 rfl (w.heap.size + 1) 3 i0 (.int .i64 0) 1 8 Try.underlying22 hi hz0 hz1 HB.out rfl (by decide) _ _ _ rfl (hrow2.alloc _) ⟨w2.heap.size, 0, none⟩ 1 1 [.int .i64 x] rfl rfl (cell_one_new _ _ _) (ints_oneCell .i64 [x]) (by unfold maxLen at *; omega) (by omega) (by have := hrg2.lt; have := hg1.size; simp; omega) ?_; intro v' w3 hown' hg3 hnil3; go_frame)
            | go_in)
          have hrg3 := (hrg2.alloc (.cells #[.int .i64 x] 3)).kept hg3 (row_ne_low hrow2 (Nat.lt_succ_self _)) (row_ne_iter hrow2 hrg2)
          go_roundw
          case rel =>
            refine ⟨_, cnt2, ss ++ [x], hrg3, by simp; omega, by simpa using hown', fun hv' => by have := (hnil3.1 hv').2; omega, hC.step hlk hat, ?_⟩
            exact ((hnx2.grown hg2 hnx2.size (fun j hj => by cases hj; have := hg1.size; omega)).alloc (by have := hnx2.size; have := hg2.size; omega) _).grown hg3 (by have := hnx2.size; have := hg2.size; simp; omega) (fun j hj => by have := (hrow2.lt j hj).1; omega)
          case measure => rw [hrg3.left_eq, hrg.left_eq]; exact hlt2
end Go.Proofs.Ytginjbmjofkomaa
