/- Walks of the model's Do, the kinds that leave the bits as they are or take others. -/
import Derived.Test.YtbajengoblcmnaaN11
namespace Go.Proofs.Ytbajengoblcmnaa
open Go.RowKit
set_option linter.unusedVariables false

/-- what Do gives back -/
def DoPost (w : World) (ys : List Int) (k at_ : Int) (data : ByteArray) (e : Ending) (w' : World) : Prop :=
  (∃ tv A' c', e = .returned (.tuple #[tv, .slice A' (8 * (behind ys k at_ data).length) c', .bool (saidB ys k at_)]) ∧ BoolsAt w' A' (bitsOf (behind ys k at_ data)) ∧ TellAt w' w.heap.size tv (tell ys k at_ data)) ∧ Below w.heap.size w w'
theorem DoPost.mk {w w' : World} {ys zs : List Int} {k at_ : Int} {data : ByteArray} {tv : Value} {A' : Option Addr} {n' c' : Nat} {sd : Bool} {t : Told} (hb : behind ys k at_ data = zs) (hn : n' = 8 * zs.length) (hs : saidB ys k at_ = sd) (ht : tell ys k at_ data = t)
    (h1 : BoolsAt w' A' (bitsOf zs)) (h2 : TellAt w' w.heap.size tv t) (h3 : Below w.heap.size w w') : DoPost w ys k at_ data (.returned (.tuple #[tv, .slice A' n' c', .bool sd])) w' := by
  subst hb hs ht hn
  exact ⟨⟨tv, A', c', rfl, h1, h2⟩, h3⟩
theorem TellAt.mono {w : World} {B B' : Nat} {v : Value} {t : Told} (h : TellAt w B v t) (hb : B' ≤ B) : TellAt w B' v t := by
  obtain ⟨sl, e, h1, h2⟩ := h
  refine ⟨sl, e, h1, ?_⟩
  rcases h2 with h2 | ⟨g, cap, cur, e1, e2, r⟩
  · exact .inl h2
  · exact .inr ⟨g, cap, cur, e1, Nat.le_trans hb e2, r⟩
theorem own_setCell {w : World} {B B2 g i n : Nat} {e size : Nat} {v x : Value} {xs : List Value} (h : w.ownsRow B e size v n xs) (hg : g < B) (hB : B2 ≤ B) : (w.setCell ⟨g, i, none⟩ x).ownsRow B2 e size v n xs := by
  refine ⟨h.1, ?_⟩
  rcases h.2 with h2 | ⟨g', cap, cur, e1, e2, e3, r⟩
  · exact .inl h2
  · exact .inr ⟨g', cap, cur, e1, Nat.le_trans hB e2, by rw [heap_setCell_other _ _ _ _ (by show g' ≠ g; omega)]; exact e3, r⟩
theorem BoolsAt.setCell {w : World} {A : Option Addr} {bs : List Bool} (h : BoolsAt w A bs) {g i : Nat} {x : Value} (hne : ∀ g', A = some ⟨g', 0, none⟩ → g' ≠ g) : BoolsAt (w.setCell ⟨g, i, none⟩ x) A bs := fun k hk => by
  obtain ⟨g', e, h1, h2⟩ := h k hk
  exact ⟨g', e, by simpa using h1, (World.cell?_setCell_other _ _ _ _ (by intro e'; cases e'; exact hne g e rfl)).trans h2⟩
theorem own_shape {w : World} {base e size n : Nat} {v : Value} {xs : List Value} (h : w.ownsRow base e size v n xs) : ∃ A c, v = .slice A n c := by
  rcases h.2 with ⟨rfl, rfl, _⟩ | ⟨g, cap, cur, rfl, _⟩
  · exact ⟨none, 0, rfl⟩
  · exact ⟨_, cap, rfl⟩
/-- an answer stored whole -/
def five (w : World) (g : Nat) (x0 x1 x2 x3 x4 : Value) : World := ((((w.setCell ⟨g, 0, none⟩ x0).setCell ⟨g, 1, none⟩ x1).setCell ⟨g, 2, none⟩ x2).setCell ⟨g, 3, none⟩ x3).setCell ⟨g, 4, none⟩ x4
theorem five_row {w : World} {g : Nat} {C : Array Value} {t : TypeId} (x0 x1 x2 x3 x4 : Value) (h : w.heap[g]? = some (.cells C t (0, 0))) (hC : C.size = 5) : (five w g x0 x1 x2 x3 x4).heap[g]? = some (.cells #[x0, x1, x2, x3, x4] t (0, 0)) := by
  have h0 := heap_setCell_same w g 0 _ _ x0 h
  have h1 := heap_setCell_same _ g 1 _ _ x1 h0
  have h2 := heap_setCell_same _ g 2 _ _ x2 h1
  have h3 := heap_setCell_same _ g 3 _ _ x3 h2
  have h4 := heap_setCell_same _ g 4 _ _ x4 h3
  have e : ((((C.setIfInBounds 0 x0).setIfInBounds 1 x1).setIfInBounds 2 x2).setIfInBounds 3 x3).setIfInBounds 4 x4 = #[x0, x1, x2, x3, x4] := by
    apply Array.ext_getElem?
    intro i
    rcases (show i = 0 ∨ i = 1 ∨ i = 2 ∨ i = 3 ∨ i = 4 ∨ 5 ≤ i from by omega) with rfl | rfl | rfl | rfl | rfl | hi
    · simp [hC]
    · simp [hC]
    · simp [hC]
    · simp [hC]
    · simp [hC]
    · rw [Array.getElem?_eq_none (by simp; omega), Array.getElem?_eq_none (by simp; omega)]
  rw [e] at h4
  exact h4
theorem five_below {B : Nat} {a w : World} {g : Nat} (x0 x1 x2 x3 x4 : Value) (h : Below B a w) (hg : B ≤ g) : Below B a (five w g x0 x1 x2 x3 x4) := by
  unfold five
  exact ((((h.setCell (p := ⟨g, 0, none⟩) hg _).setCell (p := ⟨g, 1, none⟩) hg _).setCell (p := ⟨g, 2, none⟩) hg _).setCell (p := ⟨g, 3, none⟩) hg _).setCell (p := ⟨g, 4, none⟩) hg _
theorem own_five {w : World} {B B2 g n : Nat} {e size : Nat} {v : Value} {xs : List Value} (x0 x1 x2 x3 x4 : Value) (h : w.ownsRow B e size v n xs) (hg : g < B) (hB : B2 ≤ B) : (five w g x0 x1 x2 x3 x4).ownsRow B2 e size v n xs := by
  unfold five
  have a0 := own_setCell (i := 0) (x := x0) h hg (Nat.le_refl B)
  have a1 := own_setCell (i := 1) (x := x1) a0 hg (Nat.le_refl B)
  have a2 := own_setCell (i := 2) (x := x2) a1 hg (Nat.le_refl B)
  have a3 := own_setCell (i := 3) (x := x3) a2 hg (Nat.le_refl B)
  exact own_setCell a3 hg hB
theorem results_five {fn : Func} {p t u : Tmp} (h : fn.results = #[.cell p 33, .tmp t, .tmp u]) (tmps : Array Value) {w : World} {g : Nat} {C : Array Value} (x0 x1 x2 x3 x4 : Value) (hr : w.heap[g]? = some (.cells C 33 (0, 0))) (hC : C.size = 5) (hp : tmps.getD p undef = .pointer (some ⟨g, 0, none⟩)) :
    (results fn tmps).run Try.prog (five w g x0 x1 x2 x3 x4) = .ok (.tuple #[.agg #[x0, x1, x2, x3, x4], tmps.getD t undef, tmps.getD u undef]) (five w g x0 x1 x2 x3 x4) := by
  have h5 := five_row x0 x1 x2 x3 x4 hr hC
  exact results_cell33 h tmps _ g x0 x1 x2 x3 x4 hp (cell_of_row _ _ 0 _ _ _ h5) (cell_of_row _ _ 1 _ _ _ h5) (cell_of_row _ _ 2 _ _ _ h5) (cell_of_row _ _ 3 _ _ _ h5) (cell_of_row _ _ 4 _ _ _ h5)
/-- the answer's cells, as they were made -/
structure Want (w : World) (g : Nat) : Prop where
  lt : g < w.heap.size
  row : w.heap[g]? = some (.cells #[.bool true, .bool false, .int .i64 0, .slice none 0 0, .string ⟨#[]⟩] 33 (0, 0))

set_option maxHeartbeats 1000000 in
theorem do_first (A : Option Addr) (c : Nat) (ys : List Int) (at_ : Int) (data : ByteArray) (w : World) (hy : Byt ys) (hm : ys.length ≤ 1000) (h : BoolsAt w A (bitsOf ys)) :
    Calls Try.prog 6 #[.slice A (8 * ys.length) c, .agg #[.int .i64 4, .int .i64 at_, .string data]] w (DoPost w ys 4 at_ data) := by
  have HI := Lib.hid h
  clear h
  obtain ⟨N, hN⟩ : ∃ N, N = 8 * ys.length := ⟨_, rfl⟩
  rw [← hN]
  have HN := Lib.hid hN
  clear hN
  have hN1 : N ≤ 8000 := by have := HN.out; omega
  go_enter Try.func6, Try.ntmps6
  go_wp2_with fail
  all_goals (
    refine (next_any A N c 0 (bitsOf ys) true _ (by rw [bitsOf_len, HN.out]) (by omega) (by omega) (HI.out.below (((Below.refl _ _).alloc (Nat.le_refl _) _).alloc (by simp) _))).mono ?_
    rintro e w' ⟨⟨r, rfl, hr⟩, rfl⟩
    have HR := Lib.hid hr
    clear hr
    go_wp2
    refine bodyPost_ret (results_cell33 Try.results6 _ _ (w.heap.size + 1) (.bool true) (.bool false) (.int .i64 r) (.slice none 0 0) (.string ⟨#[]⟩) (by rfl) (by simp [go_sem]) (by simp [go_sem]) (by simp [go_sem]) (by simp [go_sem]) (by simp [go_sem])) rfl ?_
    exact DoPost.mk (t := ⟨true, false, r, [], ⟨#[]⟩⟩) rfl HN.out rfl (by rw [HR.out.uniq (firstOf_is _ _ _)]; rfl) (HI.out.below (((Below.refl _ _).alloc (Nat.le_refl _) _).alloc (by simp) _)) (TellAt.nil _ _ _ _ _ _) (((Below.refl _ _).alloc (Nat.le_refl _) _).alloc (by simp) _))
end Go.Proofs.Ytbajengoblcmnaa
