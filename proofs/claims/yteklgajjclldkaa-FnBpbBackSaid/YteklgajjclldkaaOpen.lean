/- An argument that is an array of whole numbers, opened. -/
import Derived.Test.YteklgajjclldkaaRows
import Derived.WalkKit
import Derived.ProofKit
import Derived.OpenShut
import Derived.ShutString
import Derived.ChangeOld
import Derived.SizedLaws
namespace Go.Proofs.Yteklgajjclldkaa
open Go.ChangeShapes Go.WideShapes Go.ChangeAt Go.RowKit

def intIn : Value → Int
  | .int _ x => x
  | _ => 0

theorem open_arr {H : Type} {enc : TypeId × Value → H} {P : Program} {W : World} {base : Nat} {t e n : Nat} {k : IntKind} {v : Value} {d : DataW H} {p : List MemPlace}
    (ht : P.underlying t = some (.array n e)) (he : P.underlying e = some (.int k)) (hce : P.cellsOf e = 1) (hct : P.cellsOf t = n)
    (hv : Value.okWide P W .any base t v) (h : DataW.Trod enc P W 0 (fun _ => true) true t v d p) :
    ∃ xs : List Int, v = .agg (xs.map (.int k)).toArray ∧ xs.length = n ∧ ∀ x ∈ xs, (Lit.int k x).wf = true := by
  obtain ⟨cs, rfl, hsz, _⟩ : ∃ cs, v = .agg cs ∧ cs.size = P.cellsOf t ∧ Row.okWide P W .any base t cs := by
    simpa [Value.okWide, ht] using hv
  obtain ⟨fuel, hf⟩ := h
  obtain ⟨ys, m, rfl, -, hl, hn, hi⟩ := DataW.trod_array ht hf
  rw [hce] at hi
  obtain ⟨l⟩ := cs
  have hlen : l.length = n := by simpa [hct] using hsz
  have key : ∀ v ∈ l, v = .int k (intIn v) ∧ (Lit.int k (intIn v)).wf = true := by
    intro v hv
    obtain ⟨i, hin, rfl⟩ := List.mem_iff_getElem.1 hv
    have h1 := hi i (by omega)
    rw [List.getElem?_eq_getElem (by omega)] at h1
    obtain ⟨x, e1, -, w1⟩ := DataW.trod_int he h1
    simp only [Value.cells, Nat.mul_one] at e1
    have e2 : l[i] = .int k x := by
      have h3 : (List.take 1 (List.drop i l))[0]? = some (.int k x) := by rw [e1]; rfl
      rw [List.getElem?_take_of_lt (by omega), List.getElem?_drop, Nat.add_zero, List.getElem?_eq_getElem hin] at h3
      exact Option.some.inj h3
    rw [e2]
    exact ⟨rfl, w1⟩
  refine ⟨l.map intIn, ?_, by simpa using hlen, ?_⟩
  · congr 1
    rw [List.map_map]
    congr 1
    have : l.map (Value.int k ∘ intIn) = l.map id := List.map_congr_left fun v hv => (key v hv).1.symm
    rw [this, List.map_id]
  · intro x hx
    obtain ⟨v, hv, rfl⟩ := List.mem_map.1 hx
    exact (key v hv).2

/-- a list of sixteen -/
theorem list16 {xs : List Int} (h : xs.length = 16) : ∃ a0 a1 a2 a3 a4 a5 a6 a7 a8 a9 a10 a11 a12 a13 a14 a15, xs = [a0, a1, a2, a3, a4, a5, a6, a7, a8, a9, a10, a11, a12, a13, a14, a15] := by
  match xs, h with
  | [a0, a1, a2, a3, a4, a5, a6, a7, a8, a9, a10, a11, a12, a13, a14, a15], _ => exact ⟨a0, a1, a2, a3, a4, a5, a6, a7, a8, a9, a10, a11, a12, a13, a14, a15, rfl⟩

theorem Try.own : ownKnob Try.prog.godebug = none := by kernel_rfl
theorem Try.laidOut : laidOutB Try.prog = true := by kernel_rfl
theorem Try.cells22 : Try.prog.cellsOf 22 = 1 := by kernel_rfl
theorem Try.cells23 : Try.prog.cellsOf 23 = 16 := by kernel_rfl

/-- a word's bounds -/
theorem u32_bd {x : Int} (h : (Lit.int .u32 x).wf = true) : 0 ≤ x ∧ x ≤ 4294967295 := by
  have h1 : IntKind.u32.min = 0 := rfl
  have h2 : IntKind.u32.max = 4294967295 := rfl
  simp only [Lit.wf, Bool.and_eq_true, decide_eq_true_eq] at h
  omega

end Go.Proofs.Yteklgajjclldkaa
