/- Rows of steps and of answers, and how they stand while the bitmap is worked on. -/
import Derived.Test.YtbajengoblcmnaaN15
namespace Go.Proofs.Ytbajengoblcmnaa
open Go.RowKit
set_option linter.unusedVariables false

/-- a step: kind, place, text -/
abbrev Step := Int × Int × ByteArray
def OkStep (s : Step) : Prop := 0 ≤ s.1 ∧ s.1 < 8 ∧ -9223372036854775808 ≤ s.2.1 ∧ s.2.1 ≤ 9223372036854775807 ∧ s.2.2.size ≤ 1000
def flatS (L : List Step) : List Value := L.flatMap fun s => [.int .i64 s.1, .int .i64 s.2.1, .string s.2.2]
noncomputable def tellsOf : List Int → List Step → List Told
  | _, [] => []
  | ys, s :: L => tell ys s.1 s.2.1 s.2.2 :: tellsOf (behind ys s.1 s.2.1 s.2.2) L
def afterOf : List Int → List Step → List Int
  | ys, [] => ys
  | ys, s :: L => afterOf (behind ys s.1 s.2.1 s.2.2) L
def saidAll : List Int → List Step → Prop
  | _, [] => True
  | ys, s :: L => saidB ys s.1 s.2.1 = true ∧ saidAll (behind ys s.1 s.2.1 s.2.2) L
theorem tellsOf_snoc (s : Step) : ∀ (L : List Step) (ys : List Int), tellsOf ys (L ++ [s]) = tellsOf ys L ++ [tell (afterOf ys L) s.1 s.2.1 s.2.2]
  | [], ys => rfl
  | x :: L, ys => by simp [tellsOf, afterOf, tellsOf_snoc s L]
theorem afterOf_snoc (s : Step) : ∀ (L : List Step) (ys : List Int), afterOf ys (L ++ [s]) = behind (afterOf ys L) s.1 s.2.1 s.2.2
  | [], ys => rfl
  | x :: L, ys => by simp [afterOf, afterOf_snoc s L]
theorem saidAll_snoc (s : Step) : ∀ (L : List Step) (ys : List Int), saidAll ys (L ++ [s]) ↔ saidAll ys L ∧ saidB (afterOf ys L) s.1 s.2.1 = true
  | [], ys => by simp [saidAll, afterOf]
  | x :: L, ys => by simp [saidAll, afterOf, saidAll_snoc s L, and_assoc]
theorem tellsOf_len : ∀ (L : List Step) (ys : List Int), (tellsOf ys L).length = L.length
  | [], ys => rfl
  | x :: L, ys => by simp [tellsOf, tellsOf_len L]
theorem flatS_snoc (L : List Step) (s : Step) : flatS (L ++ [s]) = flatS L ++ [.int .i64 s.1, .int .i64 s.2.1, .string s.2.2] := by simp [flatS]
theorem flatS_len (L : List Step) : (flatS L).length = L.length * 3 := by
  induction L with
  | nil => rfl
  | cons s L ih => simp only [flatS, List.flatMap_cons, List.length_append] at *; simp [ih]; omega
theorem take_snoc {α : Type} {L : List α} {k : Nat} (h : k < L.length) : L.take (k + 1) = L.take k ++ [L[k]] := by
  rw [List.take_add_one, List.getElem?_eq_getElem h]
  rfl
theorem flatS_at (L : List Step) : ∀ k, (h : k < L.length) → (flatS L)[3 * k]? = some (.int .i64 L[k].1) ∧ (flatS L)[3 * k + 1]? = some (.int .i64 L[k].2.1) ∧ (flatS L)[3 * k + 2]? = some (.string L[k].2.2) := by
  induction L with
  | nil => intro k h; simp at h
  | cons s L ih =>
    intro k h
    cases k with
    | zero => exact ⟨rfl, rfl, rfl⟩
    | succ k =>
      have h' : k < L.length := by simpa using h
      obtain ⟨h1, h2, h3⟩ := ih k h'
      simp only [flatS, List.flatMap_cons] at *
      refine ⟨?_, ?_, ?_⟩
      · rw [List.getElem?_append_right (by simp; omega)]
        simp only [List.length_cons, List.length_nil, List.getElem_cons_succ]
        rw [← h1]; congr 1
      · rw [List.getElem?_append_right (by simp; omega)]
        simp only [List.length_cons, List.length_nil, List.getElem_cons_succ]
        rw [← h2]; congr 1
      · rw [List.getElem?_append_right (by simp; omega)]
        simp only [List.length_cons, List.length_nil, List.getElem_cons_succ]
        rw [← h3]; congr 1

/-- a row of steps at v -/
def StepsAt (w : World) (B : Nat) (v : Value) (L : List Step) : Prop := w.ownsRow B 29 3 v L.length (flatS L)
theorem own_below {w w' : World} {B e size n : Nat} {v : Value} {xs : List Value} (h : w.ownsRow B e size v n xs) (hb : Below w.heap.size w w') : w'.ownsRow B e size v n xs := by
  refine ⟨h.1, ?_⟩
  rcases h.2 with h2 | ⟨g, cap, cur, e1, e2, e3, r⟩
  · exact .inl h2
  · exact .inr ⟨g, cap, cur, e1, e2, by rw [hb.block g (Array.getElem?_eq_some_iff.1 e3).1]; exact e3, r⟩
theorem own_base {w : World} {B B' e size n : Nat} {v : Value} {xs : List Value} (h : w.ownsRow B e size v n xs) (hb : B' ≤ B) : w.ownsRow B' e size v n xs := by
  refine ⟨h.1, ?_⟩
  rcases h.2 with h2 | ⟨g, cap, cur, e1, e2, r⟩
  · exact .inl h2
  · exact .inr ⟨g, cap, cur, e1, Nat.le_trans hb e2, r⟩
theorem StepsAt.at {w : World} {B : Nat} {v : Value} {L : List Step} (h : StepsAt w B v L) (k : Nat) (hk : k < L.length) :
    ∃ g c, v = .slice (some ⟨g, 0, none⟩) L.length c ∧ g < w.heap.size ∧ w.cell? ⟨g, 3 * k, none⟩ = some (.int .i64 L[k].1) ∧ w.cell? ⟨g, 3 * k + 1, none⟩ = some (.int .i64 L[k].2.1) ∧ w.cell? ⟨g, 3 * k + 2, none⟩ = some (.string L[k].2.2) := by
  have h' : w.ownsRow B 29 3 v L.length (flatS L) := h
  obtain ⟨h1, h2, h3⟩ := flatS_at L k hk
  rcases h'.2 with ⟨_, hz⟩ | ⟨g, cap, cur, rfl, hB, hg, hnc, hcm, hcs, htk⟩
  · omega
  · refine ⟨g, cap, rfl, (Array.getElem?_eq_some_iff.1 hg).1, ?_, ?_, ?_⟩
    · rw [World.ownsRow.cellAt h' (3 * k) (by omega)]; exact h1
    · rw [World.ownsRow.cellAt h' (3 * k + 1) (by omega)]; exact h2
    · rw [World.ownsRow.cellAt h' (3 * k + 2) (by omega)]; exact h3

/-- an answer's five cells -/
def tcells (x : Told × Value) : List Value := [.bool x.1.ok, .bool x.1.yes, .int .i64 x.1.n, x.2, .string x.1.data]
def flatT (P : List (Told × Value)) : List Value := P.flatMap tcells
theorem flatT_snoc (P : List (Told × Value)) (x : Told × Value) : flatT (P ++ [x]) = flatT P ++ tcells x := by simp [flatT]
theorem flatT_len (P : List (Told × Value)) : (flatT P).length = P.length * 5 := by
  induction P with
  | nil => rfl
  | cons s L ih => simp only [flatT, List.flatMap_cons, List.length_append] at *; simp [ih, tcells]; omega
theorem flatT_at (P : List (Told × Value)) : ∀ k, (h : k < P.length) → ∀ j, j < 5 → (flatT P)[5 * k + j]? = (tcells P[k])[j]? := by
  induction P with
  | nil => intro k h; simp at h
  | cons s L ih =>
    intro k h j hj
    cases k with
    | zero =>
      simp only [flatT, List.flatMap_cons, Nat.mul_zero, Nat.zero_add]
      rw [List.getElem?_append_left (by simpa [tcells] using hj)]
      rfl
    | succ k =>
      have h' : k < L.length := by simpa using h
      have := ih k h' j hj
      simp only [flatT, List.flatMap_cons] at *
      rw [List.getElem?_append_right (by simp [tcells]; omega)]
      simp only [List.getElem_cons_succ]
      rw [← this]
      congr 1
      simp [tcells]; omega
/-- a row of answers at v -/
structure TellsAt (w : World) (B : Nat) (v : Value) (P : List (Told × Value)) : Prop where
  own : w.ownsRow B 33 5 v P.length (flatT P)
  rows : ∀ x ∈ P, w.ownsRow B 61 2 x.2 x.1.rows.length (flatI x.1.rows)
theorem TellsAt.nil (w : World) (B : Nat) : TellsAt w B (.slice none 0 0) [] := ⟨World.ownsRow_nil _ _ _ _, fun x hx => by cases hx⟩
theorem TellsAt.below {w w' : World} {B : Nat} {v : Value} {P : List (Told × Value)} (h : TellsAt w B v P) (hb : Below w.heap.size w w') : TellsAt w' B v P := ⟨own_below h.own hb, fun x hx => own_below (h.rows x hx) hb⟩
/-- what leaves the blocks of two element types alone -/
theorem own_keep {w w' : World} {B e size n : Nat} {v : Value} {xs : List Value} (h : w.ownsRow B e size v n xs) (hk : ∀ (k : Nat) (C : Array Value), w.heap[k]? = some (.cells C e (0, 0)) → w'.heap[k]? = w.heap[k]?) : w'.ownsRow B e size v n xs := by
  refine ⟨h.1, ?_⟩
  rcases h.2 with h2 | ⟨g, cap, cur, e1, e2, e3, r⟩
  · exact .inl h2
  · exact .inr ⟨g, cap, cur, e1, e2, (hk g cur e3).trans e3, r⟩
theorem own_apart {w : World} {B1 B2 e1 e2 s1 s2 n1 n2 : Nat} {v1 v2 : Value} {xs1 xs2 : List Value} (h1 : w.ownsRow B1 e1 s1 v1 n1 xs1) (h2 : w.ownsRow B2 e2 s2 v2 n2 xs2) (hne : e1 ≠ e2) : v1.ownBlock = none ∨ v1.ownBlock ≠ v2.ownBlock := by
  rcases h1.2 with ⟨rfl, _⟩ | ⟨g1, cap1, cur1, rfl, _, hg1, _⟩
  · exact .inl rfl
  · rcases h2.2 with ⟨rfl, _⟩ | ⟨g2, cap2, cur2, rfl, _, hg2, _⟩
    · exact .inr (by simp [Value.ownBlock])
    · refine .inr fun e => ?_
      simp only [Value.ownBlock, Option.some.injEq] at e
      subst e
      rw [hg1] at hg2
      simp at hg2
      exact hne hg2.2
theorem setCell_block {w : World} {h i : Nat} {x : Value} {C0 : Array Value} {t0 : TypeId} (hh : w.heap[h]? = some (.cells C0 t0 (0, 0))) {e : TypeId} (hne : e ≠ t0) : ∀ (k : Nat) (C : Array Value), w.heap[k]? = some (.cells C e (0, 0)) → (w.setCell ⟨h, i, none⟩ x).heap[k]? = w.heap[k]? := fun k C hk => by
  refine heap_setCell_other _ _ _ _ fun e' => ?_
  have e2 : k = h := e'
  subst e2
  rw [hh] at hk
  simp at hk
  exact hne hk.2.symm

/-- the bitmap and the answers so far, since world w0 -/
structure Bas (w0 w : World) (g h : Nat) (zs : List Int) (v : Value) (P : List (Told × Value)) : Prop where
  bm : BmAt w g h zs
  tells : TellsAt w w0.heap.size v P
  below : Below w0.heap.size w0 w
  hg : w0.heap.size ≤ g
  hh : w0.heap.size ≤ h
theorem BmAt.keep {w w' : World} {g h : Nat} {ys : List Int} (b : BmAt w g h ys) (hb : Below w.heap.size w w') : BmAt w' g h ys := b.below hb b.lt.1 b.lt.2
theorem Bas.keep {w0 w w' : World} {g h : Nat} {zs : List Int} {v : Value} {P : List (Told × Value)} (b : Bas w0 w g h zs v P) (hb : Below w.heap.size w w') : Bas w0 w' g h zs v P :=
  ⟨b.bm.keep hb, b.tells.below hb, b.below.trans (hb.mono b.below.size), b.hg, b.hh⟩
theorem Bas.alloc {w0 w : World} {g h : Nat} {zs : List Int} {v : Value} {P : List (Told × Value)} (b : Bas w0 w g h zs v P) (o : Obj) : Bas w0 (w.alloc o) g h zs v P := b.keep ((Below.refl _ _).alloc (Nat.le_refl _) _)
theorem Bas.store {w0 w : World} {g h : Nat} {zs : List Int} {v : Value} {P : List (Told × Value)} (b : Bas w0 w g h zs v P) (i : Nat) (x : Int) (hx : 0 ≤ x ∧ x < 256) : Bas w0 (w.setCell ⟨h, i, none⟩ (.int .u8 x)) g h (zs.set i x) v P :=
  ⟨b.bm.store i x hx, ⟨own_keep b.tells.own (setCell_block b.bm.row (by decide)), fun y hy => own_keep (b.tells.rows y hy) (setCell_block b.bm.row (by decide))⟩, b.below.setCell (p := ⟨h, i, none⟩) b.hh _, b.hg, b.hh⟩

/-- the round's own answer lies at block s1, its cells are C -/
structure Mid (w0 w : World) (g h s1 : Nat) (zs : List Int) (v : Value) (P : List (Told × Value)) (C : Array Value) : Prop where
  bas : Bas w0 w g h zs v P
  told : w.heap[s1]? = some (.cells C 33 (0, 0))
  fresh : ∀ k, v.ownBlock = some k → k ≠ s1
  hs : w0.heap.size ≤ s1
theorem Mid.keep {w0 w w' : World} {g h s1 : Nat} {zs : List Int} {v : Value} {P : List (Told × Value)} {C : Array Value} (m : Mid w0 w g h s1 zs v P C) (hb : Below w.heap.size w w') : Mid w0 w' g h s1 zs v P C :=
  ⟨m.bas.keep hb, (hb.block s1 (Array.getElem?_eq_some_iff.1 m.told).1).trans m.told, m.fresh, m.hs⟩
theorem Mid.alloc {w0 w : World} {g h s1 : Nat} {zs : List Int} {v : Value} {P : List (Told × Value)} {C : Array Value} (m : Mid w0 w g h s1 zs v P C) (o : Obj) : Mid w0 (w.alloc o) g h s1 zs v P C := m.keep ((Below.refl _ _).alloc (Nat.le_refl _) _)
theorem Mid.store {w0 w : World} {g h s1 : Nat} {zs : List Int} {v : Value} {P : List (Told × Value)} {C : Array Value} (m : Mid w0 w g h s1 zs v P C) (i : Nat) (x : Int) (hx : 0 ≤ x ∧ x < 256) : Mid w0 (w.setCell ⟨h, i, none⟩ (.int .u8 x)) g h s1 (zs.set i x) v P C :=
  ⟨m.bas.store i x hx, (setCell_block m.bas.bm.row (by decide) s1 C m.told).trans m.told, m.fresh, m.hs⟩
theorem Mid.put {w0 w : World} {g h s1 : Nat} {zs : List Int} {v : Value} {P : List (Told × Value)} {C : Array Value} (m : Mid w0 w g h s1 zs v P C) (i : Nat) (x : Value) : Mid w0 (w.setCell ⟨s1, i, none⟩ x) g h s1 zs v P (C.setIfInBounds i x) := by
  refine ⟨⟨⟨?_, ?_, m.bas.bm.byt⟩, ⟨?_, fun y hy => own_keep (m.bas.tells.rows y hy) (setCell_block m.told (by decide))⟩, m.bas.below.setCell (p := ⟨s1, i, none⟩) m.hs _, m.bas.hg, m.bas.hh⟩, heap_setCell_same _ _ _ _ _ _ m.told, m.fresh, m.hs⟩
  · exact (setCell_block m.told (by decide) g _ m.bas.bm.ptr).trans m.bas.bm.ptr
  · exact (setCell_block m.told (by decide) h _ m.bas.bm.row).trans m.bas.bm.row
  · refine ⟨m.bas.tells.own.1, ?_⟩
    rcases m.bas.tells.own.2 with h2 | ⟨k, cap, cur, e1, e2, e3, r⟩
    · exact .inl h2
    · refine .inr ⟨k, cap, cur, e1, e2, (heap_setCell_other _ _ _ _ ?_).trans e3, r⟩
      exact m.fresh k (by rw [e1]; rfl)
/-- the bitmap takes other bytes -/
theorem Mid.take {w0 w w' : World} {g h s1 h' : Nat} {zs xs : List Int} {v : Value} {P : List (Told × Value)} {C : Array Value} (m : Mid w0 w g h s1 zs v P C) (hb : BmAt w' g h' xs) (hbl : Below w0.heap.size w w') (hh : w0.heap.size ≤ h') (hk : ∀ k : Nat, k < w.heap.size → k ≠ g → w'.heap[k]? = w.heap[k]?) : Mid w0 w' g h' s1 xs v P C := by
  have key : ∀ e, e ≠ 64 → ∀ (k : Nat) (C : Array Value), w.heap[k]? = some (.cells C e (0, 0)) → w'.heap[k]? = w.heap[k]? := fun e he k C hkC => by
    refine hk k (Array.getElem?_eq_some_iff.1 hkC).1 fun e' => ?_
    subst e'
    rw [m.bas.bm.ptr] at hkC
    simp at hkC
    exact he hkC.2.symm
  exact ⟨⟨hb, ⟨own_keep m.bas.tells.own (key _ (by decide)), fun y hy => own_keep (m.bas.tells.rows y hy) (key _ (by decide))⟩, m.bas.below.trans hbl, m.bas.hg, hh⟩, (key _ (by decide) s1 C m.told).trans m.told, m.fresh, m.hs⟩
theorem Mid.cell {w0 w : World} {g h s1 : Nat} {zs : List Int} {v : Value} {P : List (Told × Value)} {C : Array Value} (m : Mid w0 w g h s1 zs v P C) (i : Nat) : w.cell? ⟨s1, i, none⟩ = C[i]? := cell_of_row _ _ i _ _ _ m.told
theorem Mid.frz {w0 w : World} {g h s1 : Nat} {zs : List Int} {v : Value} {P : List (Told × Value)} {C : Array Value} (m : Mid w0 w g h s1 zs v P C) (i : Nat) : w.frozen? ⟨s1, i, none⟩ = false := frozen_of_row _ _ i _ _ m.told
/-- the answer is put behind the others -/
theorem Bas.snoc {w0 w w3 : World} {g h : Nat} {zs : List Int} {v v' : Value} {P : List (Told × Value)} {t : Told} {sl : Value} (b : Bas w0 w g h zs v P) (hs : w.ownsRow w0.heap.size 61 2 sl t.rows.length (flatI t.rows))
    (hg : w.grownBy w3 v.ownBlock) (ho : w3.ownsRow w0.heap.size 33 5 v' (P.length + 1) (flatT P ++ tcells (t, sl))) : Bas w0 w3 g h zs v' (P ++ [(t, sl)]) := by
  have key : ∀ e, e ≠ 33 → ∀ (k : Nat) (C : Array Value), w.heap[k]? = some (.cells C e (0, 0)) → w3.heap[k]? = w.heap[k]? := fun e he k C hkC => by
    refine hg.block k (Array.getElem?_eq_some_iff.1 hkC).1 fun e' => ?_
    rcases b.tells.own.2 with ⟨rfl, _⟩ | ⟨k', cap, cur, e1, e2, e3, r⟩
    · cases e'
    · rw [e1] at e'
      simp only [Value.ownBlock, Option.some.injEq] at e'
      subst e'
      rw [e3] at hkC
      simp at hkC
      exact he hkC.2.symm
  refine ⟨⟨(key _ (by decide) g _ b.bm.ptr).trans b.bm.ptr, (key _ (by decide) h _ b.bm.row).trans b.bm.row, b.bm.byt⟩, ⟨?_, ?_⟩, b.below.grown hg b.below.size (fun k hk => (b.tells.own.lt k hk).1), b.hg, b.hh⟩
  · rw [List.length_append, flatT_snoc]; exact ho
  · intro x hx
    rcases List.mem_append.1 hx with hx | hx
    · exact own_keep (b.tells.rows x hx) (key _ (by decide))
    · obtain rfl := List.mem_singleton.1 hx
      exact own_keep hs (key _ (by decide))
theorem behind_len (ys : List Int) (k at_ : Int) (data : ByteArray) (h : ys.length ≤ 1000) (hd : data.size ≤ 1000) : (behind ys k at_ data).length ≤ 1000 := by
  unfold behind
  split
  · split
    · rw [ysSet_len]; exact h
    · exact h
  · split
    · split
      · rw [ysClr_len]; exact h
      · exact h
    · split
      · rw [numS_len]; exact hd
      · exact h
theorem afterOf_len : ∀ (L : List Step) (ys : List Int), ys.length ≤ 1000 → (∀ s ∈ L, OkStep s) → (afterOf ys L).length ≤ 1000
  | [], ys, h, _ => h
  | s :: L, ys, h, hL => afterOf_len L _ (behind_len _ _ _ _ h (hL s (by simp)).2.2.2.2) (fun x hx => hL x (by simp [hx]))
theorem behind_byt (ys : List Int) (k at_ : Int) (data : ByteArray) (h : Byt ys) : Byt (behind ys k at_ data) := by
  unfold behind
  split
  · split
    · rename_i hin
      exact h.set (by have := hin.1; have := hin.2; omega)
    · exact h
  · split
    · split
      · rename_i hin
        exact h.clr (by have := hin.1; have := hin.2; omega)
      · exact h
    · split
      · exact numS_byt data
      · exact h
theorem afterOf_byt : ∀ (L : List Step) (ys : List Int), Byt ys → Byt (afterOf ys L)
  | [], ys, h => h
  | s :: L, ys, h => afterOf_byt L _ (behind_byt _ _ _ _ h)
theorem saidAll_at : ∀ (L : List Step) (ys : List Int) (k : Nat) (hk : k < L.length), saidAll ys L → saidB (afterOf ys (L.take k)) L[k].1 L[k].2.1 = true
  | s :: L, ys, 0, _, h => h.1
  | s :: L, ys, k + 1, hk, h => saidAll_at L _ k (by simpa using hk) h.2
/-- a round is over -/
theorem round_end {w w3 : World} {g h k : Nat} {ys0 zs' : List Int} {L : List Step} {v' : Value} {P : List (Told × Value)} {t : Told} {sl : Value} {sk sa : Int} {sd : ByteArray} (hk : k < L.length) (e0 : sk = L[k].1) (e1 : sa = L[k].2.1) (e2 : sd = L[k].2.2)
    (hP : P.map Prod.fst = tellsOf ys0 (L.take k)) (ht : tell (afterOf ys0 (L.take k)) sk sa sd = t) (hz : behind (afterOf ys0 (L.take k)) sk sa sd = zs') (hb : Bas w w3 g h zs' v' (P ++ [(t, sl)])) :
    ∃ (h : Nat) (P : List (Told × Value)), P.map Prod.fst = tellsOf ys0 (L.take (k + 1)) ∧ Bas w w3 g h (afterOf ys0 (L.take (k + 1))) v' P := by
  subst e0 e1 e2 ht hz
  refine ⟨h, P ++ [(tell (afterOf ys0 (L.take k)) L[k].1 L[k].2.1 L[k].2.2, sl)], ?_, ?_⟩
  · rw [take_snoc hk, tellsOf_snoc, List.map_append, hP]
    rfl
  · rw [take_snoc hk, afterOf_snoc]
    exact hb
end Go.Proofs.Ytbajengoblcmnaa
