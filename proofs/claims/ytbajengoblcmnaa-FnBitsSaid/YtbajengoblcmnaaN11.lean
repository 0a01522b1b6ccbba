/- What a step on the bits tells. -/
import Derived.Test.YtbajengoblcmnaaN10
import Derived.Laws.ResultCell
namespace Go.Proofs.Ytbajengoblcmnaa
open Go.RowKit
set_option linter.unusedVariables false

theorem nextIs_of (bs : List Bool) (i : Nat) (b : Bool) : ∃ r, NextIs bs i b r := by
  by_cases h : ∃ k, i ≤ k ∧ bs[k]? = some b
  · obtain ⟨k, hk⟩ := h
    have key : ∀ m, ∀ k, k ≤ m → i ≤ k → bs[k]? = some b → ∃ r, NextIs bs i b r := by
      intro m
      induction m with
      | zero =>
        intro k h1 h2 h3
        exact ⟨k, .inr ⟨k, rfl, h2, h3, fun j h4 h5 => by omega⟩⟩
      | succ m ih =>
        intro k h1 h2 h3
        by_cases hx : ∃ j, i ≤ j ∧ j < k ∧ bs[j]? = some b
        · obtain ⟨j, h4, h5, h6⟩ := hx
          exact ih j (by omega) h4 h6
        · refine ⟨k, .inr ⟨k, rfl, h2, h3, fun j h4 h5 => ?_⟩⟩
          have hj : j < bs.length := by have := lt_get h3; omega
          have e := getD_get? (d := false) hj
          rw [e]
          congr 1
          have : bs.getD j false ≠ b := fun e' => hx ⟨j, h4, h5, by rw [e, e']⟩
          cases hh : bs.getD j false <;> cases b <;> simp_all
    exact key k k (Nat.le_refl _) hk.1 hk.2
  · refine ⟨-1, .inl ⟨rfl, fun j h1 h2 => ?_⟩⟩
    have e := getD_get? (d := false) h2
    rw [e]
    congr 1
    have : bs.getD j false ≠ b := fun e' => h ⟨j, h1, by rw [e, e']⟩
    cases hh : bs.getD j false <;> cases b <;> simp_all

/-- what a step answers -/
structure Told where
  ok : Bool
  yes : Bool
  n : Int
  rows : List (Int × Int)
  data : ByteArray
/-- the first place of a kind, as a function -/
noncomputable def firstOf (bs : List Bool) (i : Nat) (b : Bool) : Int := (nextIs_of bs i b).choose
theorem firstOf_is (bs : List Bool) (i : Nat) (b : Bool) : NextIs bs i b (firstOf bs i b) := (nextIs_of bs i b).choose_spec
def inB (ys : List Int) (at_ : Int) : Prop := 0 ≤ at_ ∧ at_ < 8 * ys.length
instance (ys : List Int) (at_ : Int) : Decidable (inB ys at_) := by unfold inB; exact inferInstance
noncomputable def tell (ys : List Int) (k at_ : Int) (data : ByteArray) : Told :=
  if k = 0 ∨ k = 1 then ⟨decide (inB ys at_), false, 0, [], ⟨#[]⟩⟩
  else if k = 2 then ⟨decide (inB ys at_), decide (inB ys at_) && bitAt ys at_.toNat, 0, [], ⟨#[]⟩⟩
  else if k = 3 then ⟨true, false, if inB ys at_ then firstOf (bitsOf ys) at_.toNat false else 0, [], ⟨#[]⟩⟩
  else if k = 4 then ⟨true, false, firstOf (bitsOf ys) 0 true, [], ⟨#[]⟩⟩
  else if k = 5 then ⟨true, false, 0, freeOf (bitsOf ys), ⟨#[]⟩⟩
  else if k = 6 then ⟨true, false, 0, [], strOfNums ys⟩
  else ⟨true, false, 0, [], ⟨#[]⟩⟩
def behind (ys : List Int) (k at_ : Int) (data : ByteArray) : List Int :=
  if k = 0 then (if inB ys at_ then ysSet ys at_.toNat else ys) else if k = 1 then (if inB ys at_ then ysClr ys at_.toNat else ys) else if k = 7 then numS data else ys
def saidB (ys : List Int) (k at_ : Int) : Bool := decide (k ≠ 3 ∨ inB ys at_)
/-- the answer t lies at v -/
def TellAt (w : World) (B : Nat) (v : Value) (t : Told) : Prop := ∃ sl, v = .agg #[.bool t.ok, .bool t.yes, .int .i64 t.n, sl, .string t.data] ∧ w.ownsRow B 61 2 sl t.rows.length (flatI t.rows)
theorem TellAt.nil (w : World) (B : Nat) (ok yes : Bool) (n : Int) (data : ByteArray) : TellAt w B (.agg #[.bool ok, .bool yes, .int .i64 n, .slice none 0 0, .string data]) ⟨ok, yes, n, [], data⟩ := ⟨_, rfl, World.ownsRow_nil _ _ _ _⟩
theorem BoolsAt.ofOwn {w : World} {B n : Nat} {v : Value} {bs : List Bool} (h : w.ownsRow B 4 1 v n (bools bs)) (hn : bs.length = n) : ∃ A c, v = .slice A n c ∧ BoolsAt w A bs := by
  rcases h.2 with ⟨rfl, rfl⟩ | ⟨g, cap, cur, rfl, hB, hg, h1, h2, h3, h4⟩
  · exact ⟨none, 0, rfl, fun i hi => by omega⟩
  · refine ⟨some ⟨g, 0, none⟩, cap, rfl, fun i hi => ⟨g, rfl, (Array.getElem?_eq_some_iff.1 hg).1, ?_⟩⟩
    have hc := World.ownsRow.cellAt h i (by omega)
    rw [hc, bools, List.getElem?_map, getD_get? (d := false) hi]
    rfl
theorem results_cell2 {fn : Func} {p t u : Tmp} {ty : TypeId} (h : fn.results = #[.cell p ty, .tmp t, .tmp u]) (tmps : Array Value) (P : Program) (w : World) :
    (results fn tmps).run P w =
      ((asAddr (tmps.getD p undef)).run P w).andThen fun a w₁ => ((loadVar ty a).run P w₁).andThen fun v w₂ => .ok (.tuple #[v, tmps.getD t undef, tmps.getD u undef]) w₂ := by
  simp only [results, h]
  simp [Sem.run_bind, Result.andThen]
theorem results_cell33 {fn : Func} {p t u : Tmp} (h : fn.results = #[.cell p 33, .tmp t, .tmp u]) (tmps : Array Value) (w : World) (g : Nat) (x0 x1 x2 x3 x4 : Value) (hp : tmps.getD p undef = .pointer (some ⟨g, 0, none⟩))
    (c0 : w.cell? ⟨g, 0, none⟩ = some x0) (c1 : w.cell? ⟨g, 1, none⟩ = some x1) (c2 : w.cell? ⟨g, 2, none⟩ = some x2) (c3 : w.cell? ⟨g, 3, none⟩ = some x3) (c4 : w.cell? ⟨g, 4, none⟩ = some x4) :
    (results fn tmps).run Try.prog w = .ok (.tuple #[.agg #[x0, x1, x2, x3, x4], tmps.getD t undef, tmps.getD u undef]) w := by
  rw [results_cell2 h]
  generalize tmps.getD t undef = vt
  generalize tmps.getD u undef = vu
  rw [hp]
  simp [asAddr, go_sem, c0, c1, c2, c3, c4, Result.andThen]
end Go.Proofs.Ytbajengoblcmnaa
