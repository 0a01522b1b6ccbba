/- The bitmap's plain law: the next bit of a kind, the rows of free ones, a bit set or cleared. -/
import Derived.Test.YtbajengoblcmnaaN0
namespace Go.Proofs.Ytbajengoblcmnaa
open Go.RowKit
set_option linter.unusedVariables false

def ysSet (ys : List Int) (p : Nat) : List Int := ys.set (p / 8) (orB (ys.getD (p / 8) 0) (p % 8))
def ysClr (ys : List Int) (p : Nat) : List Int := ys.set (p / 8) (clB (ys.getD (p / 8) 0) (p % 8))
theorem ysSet_len (ys : List Int) (p : Nat) : (ysSet ys p).length = ys.length := by simp [ysSet]
theorem ysClr_len (ys : List Int) (p : Nat) : (ysClr ys p).length = ys.length := by simp [ysClr]
theorem Byt.at {ys : List Int} (h : Byt ys) {i : Nat} (hi : i < ys.length) : 0 ≤ ys.getD i 0 ∧ ys.getD i 0 < 256 := by
  rw [List.getD_eq_getElem?_getD, List.getElem?_eq_getElem hi]
  exact h _ (List.getElem_mem _)
theorem Byt.put {ys : List Int} (h : Byt ys) (i : Nat) {x : Int} (hx : 0 ≤ x ∧ x < 256) : Byt (ys.set i x) := fun y hy => by
  rcases List.mem_or_eq_of_mem_set hy with h' | rfl
  · exact h y h'
  · exact hx
theorem Byt.set {ys : List Int} (h : Byt ys) {p : Nat} (hp : p < 8 * ys.length) : Byt (ysSet ys p) := h.put _ (orB_bd (h.at (by omega)).1 (h.at (by omega)).2 (by omega))
theorem Byt.clr {ys : List Int} (h : Byt ys) {p : Nat} (hp : p < 8 * ys.length) : Byt (ysClr ys p) := h.put _ (clB_bd (h.at (by omega)).1 (h.at (by omega)).2 (by omega))
theorem getD_setAt (ys : List Int) (i j : Nat) (x : Int) (hi : i < ys.length) : (ys.set i x).getD j 0 = if j = i then x else ys.getD j 0 := by
  rw [List.getD_eq_getElem?_getD, List.getElem?_set, List.getD_eq_getElem?_getD]
  by_cases h : i = j
  · subst h; simp [hi]
  · rw [if_neg h, if_neg (fun e => h e.symm)]
theorem bitAt_bt (ys : List Int) (p : Nat) : bitAt ys p = bt (ys.getD (p / 8) 0) (p % 8) := rfl
theorem bitAt_set {ys : List Int} (h : Byt ys) {p : Nat} (hp : p < 8 * ys.length) (q : Nat) : bitAt (ysSet ys p) q = if q = p then true else bitAt ys q := by
  have hb := h.at (i := p / 8) (by omega)
  rw [bitAt_bt, ysSet, getD_setAt _ _ _ _ (by omega)]
  by_cases e : q / 8 = p / 8
  · rw [if_pos e, bt_orB hb.1 hb.2 (by omega) (by omega), bitAt_bt, e]
    by_cases e2 : q % 8 = p % 8
    · rw [if_pos e2, if_pos (by omega)]
    · rw [if_neg e2, if_neg (by omega)]
  · rw [if_neg e, if_neg (by omega), bitAt_bt]
theorem bitAt_clr {ys : List Int} (h : Byt ys) {p : Nat} (hp : p < 8 * ys.length) (q : Nat) : bitAt (ysClr ys p) q = if q = p then false else bitAt ys q := by
  have hb := h.at (i := p / 8) (by omega)
  rw [bitAt_bt, ysClr, getD_setAt _ _ _ _ (by omega)]
  by_cases e : q / 8 = p / 8
  · rw [if_pos e, bt_clB hb.1 hb.2 (by omega) (by omega), bitAt_bt, e]
    by_cases e2 : q % 8 = p % 8
    · rw [if_pos e2, if_pos (by omega)]
    · rw [if_neg e2, if_neg (by omega)]
  · rw [if_neg e, if_neg (by omega), bitAt_bt]
theorem bitsOf_ext {ys zs : List Int} {p : Nat} {b : Bool} (hl : zs.length = ys.length) (h : ∀ q, bitAt zs q = if q = p then b else bitAt ys q) : bitsOf zs = (bitsOf ys).set p b := by
  apply List.ext_getElem?
  intro q
  rw [List.getElem?_set, bitsOf_len]
  by_cases hq : q < 8 * ys.length
  · rw [bitsOf_get zs q (by omega), bitsOf_get ys q hq, h q]
    by_cases e : p = q
    · subst e; simp [hq]
    · rw [if_neg e, if_neg (fun e' => e e'.symm)]
  · rw [List.getElem?_eq_none (by rw [bitsOf_len]; omega), List.getElem?_eq_none (by rw [bitsOf_len]; omega)]
    split <;> simp_all
theorem bitsOf_set {ys : List Int} (h : Byt ys) {p : Nat} (hp : p < 8 * ys.length) : bitsOf (ysSet ys p) = (bitsOf ys).set p true := bitsOf_ext (ysSet_len _ _) (bitAt_set h hp)
theorem bitsOf_clr {ys : List Int} (h : Byt ys) {p : Nat} (hp : p < 8 * ys.length) : bitsOf (ysClr ys p) = (bitsOf ys).set p false := bitsOf_ext (ysClr_len _ _) (bitAt_clr h hp)

/-- r is the first place from i on that holds b; -1: there is none -/
def NextIs (bs : List Bool) (i : Nat) (b : Bool) (r : Int) : Prop :=
  (r = -1 ∧ ∀ j, i ≤ j → j < bs.length → bs[j]? = some (!b)) ∨ (∃ k : Nat, r = k ∧ i ≤ k ∧ bs[k]? = some b ∧ ∀ j, i ≤ j → j < k → bs[j]? = some (!b))
theorem NextIs.uniq {bs : List Bool} {i : Nat} {b : Bool} {r r' : Int} (h : NextIs bs i b r) (h' : NextIs bs i b r') : r = r' := by
  have lt : ∀ {k : Nat}, bs[k]? = some b → k < bs.length := fun {k} hk => by
    rcases Nat.lt_or_ge k bs.length with h | h
    · exact h
    · rw [List.getElem?_eq_none h] at hk; cases hk
  have ne : ∀ {x : Bool}, some x ≠ some (!x) := fun {x} e => by cases x <;> cases e
  rcases h with ⟨rfl, h⟩ | ⟨k, rfl, hk1, hk2, hk3⟩ <;> rcases h' with ⟨rfl, h'⟩ | ⟨k', rfl, hk1', hk2', hk3'⟩
  · rfl
  · exact absurd (hk2'.symm.trans (h k' hk1' (lt hk2'))) ne
  · exact absurd (hk2.symm.trans (h' k hk1 (lt hk2))) ne
  · rcases Nat.lt_trichotomy k k' with hlt | rfl | hlt
    · exact absurd (hk2.symm.trans (hk3' k hk1 hlt)) ne
    · rfl
    · exact absurd (hk2'.symm.trans (hk3 k' hk1' hlt)) ne

/-- the rows of free places, read bit by bit: the rows that are closed, where the open one began (-1: none is open), how long it is -/
abbrev Scan := List (Int × Int) × Int × Int
def scanStep (st : Scan) (p : Nat) (b : Bool) : Scan := if b then (if st.2.1 = -1 then st else (st.1 ++ [(st.2.1, st.2.2)], -1, 0)) else (st.1, if st.2.1 = -1 then (p : Int) else st.2.1, st.2.2 + 1)
def scanTo (bs : List Bool) : Nat → Scan
  | 0 => ([], -1, 0)
  | p + 1 => scanStep (scanTo bs p) p (bs.getD p true)
def scanEnd (st : Scan) : List (Int × Int) := if st.2.1 = -1 then st.1 else st.1 ++ [(st.2.1, st.2.2)]
/-- the rows of free places -/
def freeOf (bs : List Bool) : List (Int × Int) := scanEnd (scanTo bs bs.length)

theorem scan_ones {bs : List Bool} {out : List (Int × Int)} {a : Nat} (h : scanTo bs a = (out, -1, 0)) : ∀ b, a ≤ b → (∀ j, a ≤ j → j < b → bs[j]? = some true) → scanTo bs b = (out, -1, 0) := by
  intro b hab
  induction hab with
  | refl => intro _; exact h
  | @step b hab ih =>
    intro hj
    rw [scanTo, ih (fun j h1 h2 => hj j h1 (by omega)), List.getD_eq_getElem?_getD, hj b hab (by omega)]
    rfl
theorem scan_zeros {bs : List Bool} {out : List (Int × Int)} {a : Nat} (h : scanTo bs a = (out, -1, 0)) : ∀ b, a + 1 ≤ b → (∀ j, a ≤ j → j < b → bs[j]? = some false) → scanTo bs b = (out, (a : Int), (b : Int) - a) := by
  intro b hab
  induction hab with
  | refl =>
    intro hj
    rw [scanTo, h, List.getD_eq_getElem?_getD, hj a (by omega) (by omega)]
    simp [scanStep]
    omega
  | @step b hab ih =>
    intro hj
    have hab' : a + 1 ≤ b := hab
    rw [scanTo, ih (fun j h1 h2 => hj j h1 (by omega)), List.getD_eq_getElem?_getD, hj b (by omega) (by omega)]
    simp [scanStep]
    omega
end Go.Proofs.Ytbajengoblcmnaa
