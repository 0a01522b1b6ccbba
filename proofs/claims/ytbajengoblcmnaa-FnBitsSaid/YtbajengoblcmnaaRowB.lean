/- FnBits: a bitmap and steps on it answer what plain bits answer: for every input. No condition. -/
import Derived.Test.YtbajengoblcmnaaN20
import Derived.Test.YtbajengoblcmnaaOpen
import Derived.ChangeMaps5
import Derived.Deep.Slices
namespace Go.Proofs.Ytbajengoblcmnaa
open Go.ChangeShapes Go.WideShapes Go.ChangeAt Go.RowKit
open Go.ChangeMaps (open_string shut_string)

theorem u8_bd {x : Int} (h : (Lit.int .u8 x).wf = true) : 0 ≤ x ∧ x ≤ 255 := by
  have h1 : IntKind.u8.min = 0 := rfl
  have h2 : IntKind.u8.max = 255 := rfl
  simp only [Lit.wf, Bool.and_eq_true, decide_eq_true_eq] at h
  omega
theorem i64_bd {x : Int} (h : (Lit.int .i64 x).wf = true) : -9223372036854775808 ≤ x ∧ x ≤ 9223372036854775807 := by
  have h1 : IntKind.i64.min = -9223372036854775808 := rfl
  have h2 : IntKind.i64.max = 9223372036854775807 := rfl
  simp only [Lit.wf, Bool.and_eq_true, decide_eq_true_eq] at h
  omega
theorem Try.cellsD : Try.prog.cellsOf 29 = 3 := by kernel_rfl
theorem Try.cellsN : Try.prog.cellsOf 3 = 1 := by kernel_rfl
theorem Try.cellsX : Try.prog.cellsOf 9 = 1 := by kernel_rfl
theorem lt_cell {w : World} {a : Addr} {v : Value} (h : w.cell? a = some v) : a.block < w.heap.size := by
  rcases Nat.lt_or_ge a.block w.heap.size with hh | hh
  · exact hh
  · rw [World.cell?, Array.getElem?_eq_none hh] at h
    simp at h

section
variable {H : Type} {enc : TypeId × Value → H} {w : World} {base : Nat} {spare : Nat → Bool} {held : Bool}
/-- one step, from its three cells -/
theorem open_step {fuel : Nat} {cs : List Value} {x : DataW H × List MemPlace} (h : DataW.trod enc Try.prog w base spare held fuel 29 cs = some x) :
    ∃ s : Step, cs = [.int .i64 s.1, .int .i64 s.2.1, .string s.2.2] ∧ -9223372036854775808 ≤ s.1 ∧ s.1 ≤ 9223372036854775807 ∧ -9223372036854775808 ≤ s.2.1 ∧ s.2.1 ≤ 9223372036854775807 := by
  obtain ⟨xs, k, _, _, hl, hxl, hf⟩ := DataW.trod_struct Try.underlying29 h
  rw [Try.cellsD] at hl
  match cs, hl, xs, hxl with
  | [c0, c1, c2], _, [y0, y1, y2], _ =>
    have f0 := hf 0 _ rfl
    have f1 := hf 1 _ rfl
    have f2 := hf 2 _ rfl
    simp only [List.getElem?_cons_zero, List.getElem?_cons_succ] at f0 f1 f2
    obtain ⟨n0, e0, _, w0⟩ := DataW.trod_int Try.underlying3 f0
    obtain ⟨n1, e1, _, w1⟩ := DataW.trod_int Try.underlying3 f1
    obtain ⟨s2, e2, _, _⟩ := DataW.trod_string Try.underlying9 f2
    cases e0
    cases e1
    cases e2
    exact ⟨(n0, n1, s2), rfl, (i64_bd w0).1, (i64_bd w0).2, (i64_bd w1).1, (i64_bd w1).2⟩
/-- the steps that came in -/
theorem open_steps {fuel : Nat} {a0 : Option Addr} {len cap : Nat} {x : DataW H × List MemPlace} (h : DataW.trod enc Try.prog w base spare held fuel 22 [.slice a0 len cap] = some x) :
    ∃ L : List Step, len = L.length ∧ L.length ≤ cap ∧ L.length ≤ 9223372036854775807 ∧ ArgAt w a0 L ∧ ∀ s ∈ L, -9223372036854775808 ≤ s.1 ∧ s.1 ≤ 9223372036854775807 ∧ -9223372036854775808 ≤ s.2.1 ∧ s.2.1 ≤ 9223372036854775807 := by
  rcases Go.Deep.open_slice Try.underlying22 h with ⟨hcs, _⟩ | ⟨a, len', cap', m, n, D, Pl, hcs, _, hl, hm, hmm, _, hx⟩
  · simp only [List.cons.injEq, Value.slice.injEq, and_true] at hcs
    obtain ⟨rfl, rfl, rfl⟩ := hcs
    exact ⟨[], rfl, Nat.le_refl _, by simp, fun i hi => by simp at hi, fun s hs => by cases hs⟩
  · simp only [List.cons.injEq, Value.slice.injEq, and_true] at hcs
    obtain ⟨rfl, rfl, rfl⟩ := hcs
    have hle : len ≤ m := by rw [hmm]; split <;> omega
    obtain ⟨f, hf⟩ := Go.Deep.choose_lt (α := Step) (n := len) (p := fun i s => w.cell? (a.add (i * 3)) = some (.int .i64 s.1) ∧ w.cell? ((a.add (i * 3)).add 1) = some (.int .i64 s.2.1) ∧ w.cell? ((a.add (i * 3)).add 2) = some (.string s.2.2) ∧ -9223372036854775808 ≤ s.1 ∧ s.1 ≤ 9223372036854775807 ∧ -9223372036854775808 ≤ s.2.1 ∧ s.2.1 ≤ 9223372036854775807) (fun i hi => by
      obtain ⟨cs', h1, h2⟩ := hx i (by omega)
      rw [Try.cellsD] at h1
      obtain ⟨s, rfl, hb⟩ := open_step h2
      obtain ⟨_, _, hc⟩ := World.cells?_some h1
      have c0 := hc 0 (by omega)
      rw [show (a.add (i * 3)).add 0 = a.add (i * 3) from rfl] at c0
      exact ⟨s, c0, hc 1 (by omega), hc 2 (by omega), hb⟩)
    refine ⟨(List.range len).map f, by simp, by simpa using hl, by unfold maxLen at hm; simp; omega, ?_, ?_⟩
    · intro i hi
      have hi' : i < len := by simpa using hi
      have he : ((List.range len).map f)[i] = f i := by simp
      obtain ⟨c0, c1, c2, _⟩ := hf i hi'
      rw [he]
      exact ⟨a, rfl, by have := lt_cell c0; rwa [addr_block] at this, c0, c1, c2⟩
    · intro s hs
      obtain ⟨i, hi, rfl⟩ := List.mem_map.1 hs
      exact (hf i (List.mem_range.1 hi)).2.2.2
end

set_option maxRecDepth 100000 in
theorem bits_lifted (os : Os) (started : os.Started) (H : Type) (enc : TypeId × Value → H) :
    ReturnsInHanded {} Try.checked os 3 .any (Rows.fnBitsSpec.pre6 enc Try.prog Try.f3 Rows.fnBitsRow.domain false) (Rows.fnBitsSpec.post enc Try.prog Try.f3 false true false false) := by
  refine returnsInHanded_of_change_sized (C := Try.checked) Try.own started (by kernel_rfl) Try.func3
    (ChangeSpec.witness6 (enc := enc) (C := Try.checked) false ⟨#[], #[.int .u8 0, .int .u8 0, .string ⟨#[]⟩, .slice none 0 0], []⟩ 8 (by kernel_rfl) (by kernel_rfl) (by kernel_rfl) (by kernel_rfl)) ?_
  intro W base args ds gs before hval0 hW _ _ _
  have hval : ∀ (j : Nat) t v, Try.f3.params[j]? = some t → args[j]? = some v → Value.okWide Try.prog W .any base t v := hval0
  have hW' := hW
  obtain ⟨p, q, hA0, hV, rfl, _, _⟩ := hW
  have hA : DataW.TrodAll enc Try.prog W 0 (fun _ => true) true Try.f3.params.toList args.toList ds p := hA0
  rw [Try.params3] at hA hval
  obtain ⟨v0, v1, v2, v3, d0, d1, d2, d3, p0, p1, p2, p3, rfl, rfl, rfl, h0, h1, h2, h3⟩ := trodAll_four hA
  obtain ⟨rfl, rfl⟩ := trodVars_none hV
  obtain ⟨way, rfl, rfl, rfl, w0⟩ := open_int Try.underlying5 (hval 0 5 v0 rfl rfl) h0
  obtain ⟨n, rfl, rfl, rfl, w1⟩ := open_int Try.underlying5 (hval 1 5 v1 rfl rfl) h1
  obtain ⟨s, rfl, rfl, rfl, hs⟩ := open_string Try.underlying9 (hval 2 9 v2 rfl rfl) h2
  obtain ⟨a0, len, cap, rfl⟩ := okWide_slice Try.underlying22 (hval 3 22 v3 rfl rfl)
  have b0 := u8_bd w0
  have b1 := u8_bd w1
  have lt3 : ∀ x ∈ p3, x.block < W.heap.size := by obtain ⟨m, hm⟩ := h3; exact DataW.trod_lt m _ _ _ hm
  have hL : ∃ L : List Step, len = L.length ∧ L.length ≤ cap ∧ L.length ≤ 9223372036854775807 ∧ ArgAt W a0 L ∧ ∀ s ∈ L, -9223372036854775808 ≤ s.1 ∧ s.1 ≤ 9223372036854775807 ∧ -9223372036854775808 ≤ s.2.1 ∧ s.2.1 ≤ 9223372036854775807 := by
    obtain ⟨fuel, hf⟩ := h3
    exact open_steps hf
  obtain ⟨L, rfl, hLc, hLm, hAt, hLb⟩ := hL
  clear hA0 hval0
  unfold maxLen at hs
  refine (law_any way n s a0 cap L W b0.1 (by omega) b1.1 (by omega) hs hAt hLm hLc hLb).mono fun e W' ⟨he, bel⟩ => ?_
  subst he
  exact ⟨_, rfl, _, _, _, [], _, [], hW', trodAll_mk1 (shut_bool Try.underlying4 _),
    trodAll_mk4 (shut_int Try.underlying5 w0) (shut_int Try.underlying5 w1) (shut_string Try.underlying9 hs) (Below.trod Try.laidOut (by kernel_rfl) (of_decide_eq_true (by kernel_rfl)) h3 bel lt3),
    rfl, bel.frame _, fun h => by cases h⟩

theorem bits_holds : Rows.FnBitsSaid :=
  OpenClaim.holds_of_wide 3 Try.f3 rfl rfl rfl rfl rfl rfl rfl ⟨rfl, rfl, rfl, rfl, rfl⟩ rfl rfl rfl rfl rfl (by kernel_rfl) Try.func3 (by kernel_rfl)
    (of_decide_eq_true (by kernel_rfl)) (by unfold Func.isWrapper; first | (rw [if_pos (by decide +kernel)]; kernel_rfl) | (rw [if_neg (by decide +kernel)]; exact ⟨rfl, rfl⟩))
    (fun os started H enc _ => bits_lifted os started H enc)

#print axioms bits_holds

end Go.Proofs.Ytbajengoblcmnaa
