/- FnUnique: the values of a list, each once, in any order: for every input. No condition. -/
import Derived.Test.YtginjbmjofkomaaUnD
import Derived.Test.YtginjbmjofkomaaOpen
namespace Go.Proofs.Ytginjbmjofkomaa
open Go.ChangeShapes Go.WideShapes Go.ChangeAt Go.RowKit

theorem cell_lt {w : World} {a : Addr} {v : Value} (h : w.cell? a = some v) : a.block < w.heap.size := by
  rcases Nat.lt_or_ge a.block w.heap.size with hh | hh
  · exact hh
  · rw [World.cell?, Array.getElem?_eq_none hh] at h
    simp at h

theorem Try.cells3 : Try.prog.cellsOf 3 = 1 := by kernel_rfl

theorem law_uniq_big (A : Option Addr) (n c : Nat) (w : World) (hbig : 2147483647 < n) :
    Calls Try.prog 3 #[.slice A n c] w fun e w' => e = .returned (.bool true) ∧ Below w.heap.size w w' := by
  go_enter Try.func3, Try.ntmps3
  go_wp2_with fail
  go_ret
  exact ⟨rfl, Below.refl _ _⟩

set_option maxRecDepth 100000 in
theorem unique_lifted (os : Os) (started : os.Started) (H : Type) (enc : TypeId × Value → H) :
    ReturnsInHanded {} Try.checked os 3 .any (Rows.fnUniqueSpec.pre6 enc Try.prog Try.f3 Rows.fnUniqueRow.domain false) (Rows.fnUniqueSpec.post enc Try.prog Try.f3 false true false false) := by
  refine returnsInHanded_of_change_sized (C := Try.checked) Try.own started (by kernel_rfl) Try.func3
    (ChangeSpec.witness6 (enc := enc) (C := Try.checked) false ⟨#[], #[.slice none 0 0], []⟩ 8 (by kernel_rfl) (by kernel_rfl) (by kernel_rfl) (by kernel_rfl)) ?_
  intro W base args ds gs before hval0 hW _ _ _
  have hval : ∀ (j : Nat) t v, Try.f3.params[j]? = some t → args[j]? = some v → Value.okWide Try.prog W .any base t v := hval0
  have hW' := hW
  obtain ⟨p, q, hA0, hV, rfl, _, _⟩ := hW
  have hA : DataW.TrodAll enc Try.prog W 0 (fun _ => true) true Try.f3.params.toList args.toList ds p := hA0
  rw [Try.params3] at hA hval
  obtain ⟨v0, d0, rfl, rfl, h0⟩ := trodAll_one hA
  obtain ⟨rfl, rfl⟩ := trodVars_none hV
  obtain ⟨a0, len, cap, rfl⟩ := okWide_slice Try.underlying22 (hval 0 22 v0 rfl rfl)
  have h0k := h0
  have lt0 : ∀ x ∈ p, x.block < W.heap.size := by obtain ⟨m, hm⟩ := h0; exact DataW.trod_lt m _ _ _ hm
  obtain ⟨fuel, hf⟩ := h0
  clear hA0 hval0
  have fin : ∀ (e : Ending) W', (e = .returned (.bool true) ∧ Below W.heap.size W W') → ∃ v, e = Ending.returned v ∧ Rows.fnUniqueSpec.post enc Try.checked.prog Try.f3 false true false false W #[.slice a0 len cap] v W' := by
    rintro e W' ⟨he, bel⟩
    subst he
    exact ⟨_, rfl, _, _, _, [], _, [], hW', trodAll_mk1 (shut_bool Try.underlying4 _),
      trodAll_mk1 (Below.trod Try.laidOut (by kernel_rfl) (of_decide_eq_true (by kernel_rfl)) h0k bel lt0),
      rfl, bel.frame _, fun h => by cases h⟩
  rcases open_ints Try.underlying22 Try.underlying3 Try.cells3 hf with ⟨hcs, -⟩ | ⟨a, len', cap', zs, hcs, _, hl, hm, hz, -, hcell, hwz⟩
  · simp [Value.cells] at hcs
    obtain ⟨rfl, rfl, rfl⟩ := hcs
    exact (law_uniq_nil W).mono fin
  · simp [Value.cells] at hcs
    obtain ⟨rfl, rfl, rfl⟩ := hcs
    simp only [if_true] at hz
    unfold maxLen at hm
    have hzl : (zs.take len).length = len := by rw [List.length_take]; omega
    have hat : IntsAt W W.heap.size (some a) (zs.take len) := IntsAt.take (fun j hj => ⟨a, rfl, by have := cell_lt (hcell j hj); rwa [addr_block] at this, hcell j hj⟩) len
    have hw : ∀ x ∈ zs.take len, (Lit.int .i64 x).wf = true := fun x hx => hwz x (List.mem_of_mem_take hx)
    by_cases hbig : 2147483647 < len
    · exact (law_uniq_big (some a) len cap W hbig).mono fin
    · by_cases h3 : len ≤ 300
      · exact (law_uniq_small a len cap _ W hzl hl hm hbig h3 hw hat).mono fin
      · exact (law_uniq_great a len cap _ W hzl hl hm hbig (by omega) hw hat).mono fin

theorem unique_holds : Rows.FnUniqueSaid :=
  OpenClaim.holds_of_wide 3 Try.f3 rfl rfl rfl rfl rfl rfl rfl ⟨rfl, rfl, rfl, rfl, rfl⟩ rfl rfl rfl rfl rfl (by kernel_rfl) Try.func3 (by kernel_rfl)
    (of_decide_eq_true (by kernel_rfl)) (by unfold Func.isWrapper; first | (rw [if_pos (by decide +kernel)]; kernel_rfl) | (rw [if_neg (by decide +kernel)]; exact ⟨rfl, rfl⟩))
    (fun os started H enc _ => unique_lifted os started H enc)

#print axioms unique_holds

end Go.Proofs.Ytginjbmjofkomaa
