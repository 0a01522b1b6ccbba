/- Small lemmas for the walks: places of new blocks; an array or struct stored into the block that was made for it. -/
import Derived.Test.YteklgajjclldkaaRows
import Derived.WalkKit
import Derived.WalkSpells
import Derived.WalkLawsBesides
import Derived.Deep.QuietTactic
import Derived.BigQuiet
import Derived.Lib.Hide
import Derived.ChangeKeysEq
import Derived.Deep.MidRow
import Derived.Deep.RegionHeld3
namespace Go.Proofs.Yteklgajjclldkaa
open Go.RowKit

@[go_sem] theorem ne_add2 (n : Nat) : (n + 1 + 1 = n) = False := by simp; try omega
@[go_sem] theorem ne_add2' (n : Nat) : (n = n + 1 + 1) = False := by simp; try omega
@[go_sem] theorem ne_add3 (n : Nat) : (n + 1 + 1 + 1 = n) = False := by simp; try omega
@[go_sem] theorem ne_add3' (n : Nat) : (n = n + 1 + 1 + 1) = False := by simp; try omega
@[go_sem] theorem ne_add4 (n : Nat) : (n + 1 + 1 + 1 + 1 = n) = False := by simp; try omega
@[go_sem] theorem ne_add4' (n : Nat) : (n = n + 1 + 1 + 1 + 1) = False := by simp; try omega
@[go_sem] theorem ne_add5 (n : Nat) : (n + 1 + 1 + 1 + 1 + 1 = n) = False := by simp; try omega
@[go_sem] theorem ne_add5' (n : Nat) : (n = n + 1 + 1 + 1 + 1 + 1) = False := by simp; try omega
@[go_sem] theorem ne_add6 (n : Nat) : (n + 1 + 1 + 1 + 1 + 1 + 1 = n) = False := by simp; try omega
@[go_sem] theorem ne_add6' (n : Nat) : (n = n + 1 + 1 + 1 + 1 + 1 + 1) = False := by simp; try omega
@[go_sem] theorem lt_add2 (n : Nat) : (n < n + 1 + 1) = True := by simp; omega
@[go_sem] theorem lt_add3 (n : Nat) : (n < n + 1 + 1 + 1) = True := by simp; omega
@[go_sem] theorem lt_add4 (n : Nat) : (n < n + 1 + 1 + 1 + 1) = True := by simp; omega
@[go_sem] theorem lt_add5 (n : Nat) : (n < n + 1 + 1 + 1 + 1 + 1) = True := by simp; omega
@[go_sem] theorem lt_add6 (n : Nat) : (n < n + 1 + 1 + 1 + 1 + 1 + 1) = True := by simp; omega

@[go_sem] theorem lt_add7 (n : Nat) : (n < n + 1 + 1 + 1 + 1 + 1 + 1 + 1) = True := by simp; omega
@[go_sem] theorem ne_add7 (n : Nat) : (n + 1 + 1 + 1 + 1 + 1 + 1 + 1 = n) = False := by simp; try omega
@[go_sem] theorem ne_add7' (n : Nat) : (n = n + 1 + 1 + 1 + 1 + 1 + 1 + 1) = False := by simp; try omega
@[go_sem] theorem lt_add8 (n : Nat) : (n < n + 1 + 1 + 1 + 1 + 1 + 1 + 1 + 1) = True := by simp; omega
@[go_sem] theorem ne_add8 (n : Nat) : (n + 1 + 1 + 1 + 1 + 1 + 1 + 1 + 1 = n) = False := by simp; try omega
@[go_sem] theorem ne_add8' (n : Nat) : (n = n + 1 + 1 + 1 + 1 + 1 + 1 + 1 + 1) = False := by simp; try omega
@[go_sem] theorem lt_add9 (n : Nat) : (n < n + 1 + 1 + 1 + 1 + 1 + 1 + 1 + 1 + 1) = True := by simp; omega
@[go_sem] theorem ne_add9 (n : Nat) : (n + 1 + 1 + 1 + 1 + 1 + 1 + 1 + 1 + 1 = n) = False := by simp; try omega
@[go_sem] theorem ne_add9' (n : Nat) : (n = n + 1 + 1 + 1 + 1 + 1 + 1 + 1 + 1 + 1) = False := by simp; try omega
@[go_sem] theorem lt_add10 (n : Nat) : (n < n + 1 + 1 + 1 + 1 + 1 + 1 + 1 + 1 + 1 + 1) = True := by simp; omega
@[go_sem] theorem ne_add10 (n : Nat) : (n + 1 + 1 + 1 + 1 + 1 + 1 + 1 + 1 + 1 + 1 = n) = False := by simp; try omega
@[go_sem] theorem ne_add10' (n : Nat) : (n = n + 1 + 1 + 1 + 1 + 1 + 1 + 1 + 1 + 1 + 1) = False := by simp; try omega
@[go_sem] theorem lt_add11 (n : Nat) : (n < n + 1 + 1 + 1 + 1 + 1 + 1 + 1 + 1 + 1 + 1 + 1) = True := by simp; omega
@[go_sem] theorem ne_add11 (n : Nat) : (n + 1 + 1 + 1 + 1 + 1 + 1 + 1 + 1 + 1 + 1 + 1 = n) = False := by simp; try omega
@[go_sem] theorem ne_add11' (n : Nat) : (n = n + 1 + 1 + 1 + 1 + 1 + 1 + 1 + 1 + 1 + 1 + 1) = False := by simp; try omega
@[go_sem] theorem lt_add12 (n : Nat) : (n < n + 1 + 1 + 1 + 1 + 1 + 1 + 1 + 1 + 1 + 1 + 1 + 1) = True := by simp; omega
@[go_sem] theorem ne_add12 (n : Nat) : (n + 1 + 1 + 1 + 1 + 1 + 1 + 1 + 1 + 1 + 1 + 1 + 1 = n) = False := by simp; try omega
@[go_sem] theorem ne_add12' (n : Nat) : (n = n + 1 + 1 + 1 + 1 + 1 + 1 + 1 + 1 + 1 + 1 + 1 + 1) = False := by simp; try omega
@[go_sem] theorem lt_add13 (n : Nat) : (n < n + 1 + 1 + 1 + 1 + 1 + 1 + 1 + 1 + 1 + 1 + 1 + 1 + 1) = True := by simp; omega
@[go_sem] theorem ne_add13 (n : Nat) : (n + 1 + 1 + 1 + 1 + 1 + 1 + 1 + 1 + 1 + 1 + 1 + 1 + 1 = n) = False := by simp; try omega
@[go_sem] theorem ne_add13' (n : Nat) : (n = n + 1 + 1 + 1 + 1 + 1 + 1 + 1 + 1 + 1 + 1 + 1 + 1 + 1) = False := by simp; try omega
@[go_sem] theorem lt_add14 (n : Nat) : (n < n + 1 + 1 + 1 + 1 + 1 + 1 + 1 + 1 + 1 + 1 + 1 + 1 + 1 + 1) = True := by simp; omega
@[go_sem] theorem ne_add14 (n : Nat) : (n + 1 + 1 + 1 + 1 + 1 + 1 + 1 + 1 + 1 + 1 + 1 + 1 + 1 + 1 = n) = False := by simp; try omega
@[go_sem] theorem ne_add14' (n : Nat) : (n = n + 1 + 1 + 1 + 1 + 1 + 1 + 1 + 1 + 1 + 1 + 1 + 1 + 1 + 1) = False := by simp; try omega
@[go_sem] theorem lt_add15 (n : Nat) : (n < n + 1 + 1 + 1 + 1 + 1 + 1 + 1 + 1 + 1 + 1 + 1 + 1 + 1 + 1 + 1) = True := by simp; omega
@[go_sem] theorem ne_add15 (n : Nat) : (n + 1 + 1 + 1 + 1 + 1 + 1 + 1 + 1 + 1 + 1 + 1 + 1 + 1 + 1 + 1 = n) = False := by simp; try omega
@[go_sem] theorem ne_add15' (n : Nat) : (n = n + 1 + 1 + 1 + 1 + 1 + 1 + 1 + 1 + 1 + 1 + 1 + 1 + 1 + 1 + 1) = False := by simp; try omega
@[go_sem] theorem lt_add16 (n : Nat) : (n < n + 1 + 1 + 1 + 1 + 1 + 1 + 1 + 1 + 1 + 1 + 1 + 1 + 1 + 1 + 1 + 1) = True := by simp; omega
@[go_sem] theorem ne_add16 (n : Nat) : (n + 1 + 1 + 1 + 1 + 1 + 1 + 1 + 1 + 1 + 1 + 1 + 1 + 1 + 1 + 1 + 1 = n) = False := by simp; try omega
@[go_sem] theorem ne_add16' (n : Nat) : (n = n + 1 + 1 + 1 + 1 + 1 + 1 + 1 + 1 + 1 + 1 + 1 + 1 + 1 + 1 + 1 + 1) = False := by simp; try omega
@[go_sem] theorem lt_add17 (n : Nat) : (n < n + 1 + 1 + 1 + 1 + 1 + 1 + 1 + 1 + 1 + 1 + 1 + 1 + 1 + 1 + 1 + 1 + 1) = True := by simp; omega
@[go_sem] theorem ne_add17 (n : Nat) : (n + 1 + 1 + 1 + 1 + 1 + 1 + 1 + 1 + 1 + 1 + 1 + 1 + 1 + 1 + 1 + 1 + 1 = n) = False := by simp; try omega
@[go_sem] theorem ne_add17' (n : Nat) : (n = n + 1 + 1 + 1 + 1 + 1 + 1 + 1 + 1 + 1 + 1 + 1 + 1 + 1 + 1 + 1 + 1 + 1) = False := by simp; try omega
@[go_sem] theorem lt_add18 (n : Nat) : (n < n + 1 + 1 + 1 + 1 + 1 + 1 + 1 + 1 + 1 + 1 + 1 + 1 + 1 + 1 + 1 + 1 + 1 + 1) = True := by simp; omega
@[go_sem] theorem ne_add18 (n : Nat) : (n + 1 + 1 + 1 + 1 + 1 + 1 + 1 + 1 + 1 + 1 + 1 + 1 + 1 + 1 + 1 + 1 + 1 + 1 = n) = False := by simp; try omega
@[go_sem] theorem ne_add18' (n : Nat) : (n = n + 1 + 1 + 1 + 1 + 1 + 1 + 1 + 1 + 1 + 1 + 1 + 1 + 1 + 1 + 1 + 1 + 1 + 1) = False := by simp; try omega

theorem bcell {W w1 : World} (hb : Below W.heap.size W w1) :
    (∀ b o, b < W.heap.size → w1.cell? ⟨b, o, none⟩ = W.cell? ⟨b, o, none⟩) ∧ (∀ b o, b < W.heap.size → w1.frozen? ⟨b, o, none⟩ = W.frozen? ⟨b, o, none⟩) :=
  ⟨fun b o h => hb.cell (p := ⟨b, o, none⟩) h, fun b o h => hb.frozen (p := ⟨b, o, none⟩) h⟩

def setFrom (A : Array Value) : Nat → List Value → Array Value
  | _, [] => A
  | o, v :: r => setFrom (A.setIfInBounds o v) (o + 1) r

theorem size_setFrom : ∀ (cs : List Value) (A : Array Value) (o : Nat), (setFrom A o cs).size = A.size
  | [], _, _ => rfl
  | v :: r, A, o => by rw [setFrom, size_setFrom r]; simp

theorem get_setFrom : ∀ (cs : List Value) (A : Array Value) (o i : Nat), i < A.size → (setFrom A o cs)[i]? = if o ≤ i ∧ i < o + cs.length then cs[i - o]? else A[i]?
  | [], A, o, i, _ => by simp [setFrom]; intro h1 h2; omega
  | v :: r, A, o, i, h => by
    rw [setFrom, get_setFrom r _ _ _ (by simpa using h)]
    by_cases e : i = o
    · subst e
      rw [if_neg (by omega), if_pos ⟨by omega, by simp⟩, Array.getElem?_setIfInBounds_self_of_lt h]
      simp
    · by_cases h1 : o ≤ i ∧ i < o + (v :: r).length
      · have h2 : o + 1 ≤ i ∧ i < o + 1 + r.length := by simp at h1; omega
        rw [if_pos h1, if_pos h2]
        have e2 : i - o = (i - (o + 1)) + 1 := by omega
        rw [e2, List.getElem?_cons_succ]
      · have h2 : ¬ (o + 1 ≤ i ∧ i < o + 1 + r.length) := by simp at h1; omega
        rw [if_neg h1, if_neg h2, Array.getElem?_setIfInBounds_ne (by omega)]

theorem setFrom_all (A : Array Value) (cs : Array Value) (h : A.size = cs.size) : setFrom A 0 cs.toList = cs := by
  apply Array.ext_getElem?
  intro i
  by_cases hi : i < A.size
  · rw [get_setFrom _ _ _ _ hi, if_pos ⟨by omega, by simp; omega⟩]
    simp
  · rw [Array.getElem?_eq_none (by rw [size_setFrom]; omega), Array.getElem?_eq_none (by omega)]

theorem setCells_alloc (w : World) (t : TypeId) (n : Nat) (hn : n = w.heap.size) : ∀ (cs : List Value) (A : Array Value) (o : Nat),
    (w.alloc (.cells A t)).setCells n o cs = w.alloc (.cells (setFrom A o cs) t)
  | [], _, _ => rfl
  | v :: r, A, o => by
    rw [World.setCells, World.setCell_alloc_at _ _ _ _ _ hn, setCells_alloc w t n hn r, setFrom]

theorem wpList_store_new {P : Program} {ops : Array Oper} {rest : List Oper} {op : Oper} {a : Act} {w : World} {Q : Exit → Act → World → Prop} (hgd : op.guard = none) (ty : TypeId) (x y : Operand) (ho : op.op = .store ty x y)
    (b : Nat) (hb : b = w.heap.size) (zs cells : Array Value) (t : TypeId) (hx : a.eval x = .pointer (some ⟨b, 0, none⟩)) (hy : a.eval y = .agg cells) (hz : zs.size = cells.size)
    (hi : (P.info? ty).map (·.size) = some cells.size) (h1 : cells.all (·.oneCell') = true)
    (h : wpList P ops Q rest (a.put op.dst undef) (w.alloc (.cells cells t))) : wpList P ops Q (op :: rest) a (w.alloc (.cells zs t)) := by
  refine wpList_store_mid hgd ty x y ho b 0 cells hx hy ?_ hi h1 ?_
  · intro j hj
    rw [Nat.zero_add, World.cell?_alloc_at _ _ _ _ hb, World.frozen?_alloc_at _ _ _ _ hb]
    simp [hz, hj]
  · rw [setCells_alloc w t b hb, setFrom_all zs cells hz]
    exact h

end Go.Proofs.Yteklgajjclldkaa
