/- FnJournalTells: what a journal's superblock tells of its features is what its words hold: for every input. No condition. -/
import Derived.Test.YtpgbafllipigfaaJO
import Derived.Test.YtpgbafllipigfaaOpen
namespace Go.Proofs.Ytpgbafllipigfaa
open Go.ChangeShapes Go.WideShapes Go.ChangeAt Go.RowKit

theorem and_31 (x : Int) : bits BinOp.and IntKind.u32 x 31 = x % 32 := by
  show IntKind.u32.wrap ((BitVec.ofInt 32 x &&& BitVec.ofInt 32 31).toNat : Int) = _
  rw [BitVec.toNat_and, show (BitVec.ofInt 32 31).toNat = 2 ^ 5 - 1 from rfl, Nat.and_two_pow_sub_one_eq_mod, BitVec.toNat_ofInt, IntKind.wrap_u32]
  omega

section
variable {H : Type} {enc : TypeId × Value → H} {P : Program} {w : World} {base : Nat} {spare : Nat → Bool} {held : Bool}
/-- six parameters of one type -/
theorem trodAll_six {t : TypeId} {args : Array Value} {ds : List (DataW H)} {ps : List MemPlace} (h : DataW.TrodAll enc P w base spare held [t, t, t, t, t, t] args.toList ds ps) :
    ∃ v0 v1 v2 v3 v4 v5 d0 d1 d2 d3 d4 d5 p0 p1 p2 p3 p4 p5, args = #[v0, v1, v2, v3, v4, v5] ∧ ds = [d0, d1, d2, d3, d4, d5] ∧ ps = p0 ++ (p1 ++ (p2 ++ (p3 ++ (p4 ++ p5)))) ∧
      DataW.Trod enc P w base spare held t v0 d0 p0 ∧ DataW.Trod enc P w base spare held t v1 d1 p1 ∧ DataW.Trod enc P w base spare held t v2 d2 p2 ∧ DataW.Trod enc P w base spare held t v3 d3 p3 ∧
      DataW.Trod enc P w base spare held t v4 d4 p4 ∧ DataW.Trod enc P w base spare held t v5 d5 p5 := by
  obtain ⟨v0, s0, d0, e0, p0, q0, hargs, rfl, rfl, h0, r0⟩ := trodAll_cons h
  obtain ⟨v1, s1, d1, e1, p1, q1, rfl, rfl, rfl, h1, r1⟩ := trodAll_cons r0
  obtain ⟨v2, s2, d2, e2, p2, q2, rfl, rfl, rfl, h2, r2⟩ := trodAll_cons r1
  obtain ⟨v3, s3, d3, e3, p3, q3, rfl, rfl, rfl, h3, r3⟩ := trodAll_cons r2
  obtain ⟨v4, s4, d4, e4, p4, q4, rfl, rfl, rfl, h4, r4⟩ := trodAll_cons r3
  obtain ⟨v5, s5, d5, e5, p5, q5, rfl, rfl, rfl, h5, r5⟩ := trodAll_cons r4
  obtain ⟨rfl, rfl, rfl⟩ := trodAll_nil r5
  exact ⟨v0, v1, v2, v3, v4, v5, d0, d1, d2, d3, d4, d5, p0, p1, p2, p3, p4, p5, by cases args; simp_all, rfl, by simp, h0, h1, h2, h3, h4, h5⟩
end

set_option maxRecDepth 100000 in
theorem tells_lifted (os : Os) (started : os.Started) (H : Type) (enc : TypeId × Value → H) :
    ReturnsInHanded {} Try.checked os 4 .any (Rows.fnJournalTellsSpec.pre6 enc Try.prog Try.f4 Rows.fnJournalTellsRow.domain false) (Rows.fnJournalTellsSpec.post enc Try.prog Try.f4 false true false false) := by
  refine returnsInHanded_of_change_sized (C := Try.checked) Try.own started (by kernel_rfl) Try.func4
    (ChangeSpec.witness6 (enc := enc) (C := Try.checked) false ⟨#[], #[.int .u32 0, .int .u32 0, .int .u32 0, .int .u32 0, .int .u32 0, .int .u32 0], []⟩ 4 (by kernel_rfl) (by kernel_rfl) (by kernel_rfl) (by kernel_rfl)) ?_
  intro W base args ds gs before hval0 hW _ _ _
  have hval : ∀ (j : Nat) t v, Try.f4.params[j]? = some t → args[j]? = some v → Value.okWide Try.prog W .any base t v := hval0
  have hW' := hW
  obtain ⟨p, q, hA0, hV, rfl, _, _⟩ := hW
  have hA : DataW.TrodAll enc Try.prog W 0 (fun _ => true) true Try.f4.params.toList args.toList ds p := hA0
  rw [Try.params4] at hA hval
  obtain ⟨v0, v1, v2, v3, v4, v5, d0, d1, d2, d3, d4, d5, p0, p1, p2, p3, p4, p5, rfl, rfl, rfl, h0, h1, h2, h3, h4, h5⟩ := trodAll_six hA
  obtain ⟨rfl, rfl⟩ := trodVars_none hV
  obtain ⟨x0, rfl, rfl, rfl, w0⟩ := open_int Try.underlying22 (hval 0 22 v0 rfl rfl) h0
  have b0 := u32_bd w0
  obtain ⟨x1, rfl, rfl, rfl, w1⟩ := open_int Try.underlying22 (hval 1 22 v1 rfl rfl) h1
  have b1 := u32_bd w1
  obtain ⟨x2, rfl, rfl, rfl, w2⟩ := open_int Try.underlying22 (hval 2 22 v2 rfl rfl) h2
  have b2 := u32_bd w2
  obtain ⟨x3, rfl, rfl, rfl, w3⟩ := open_int Try.underlying22 (hval 3 22 v3 rfl rfl) h3
  have b3 := u32_bd w3
  obtain ⟨x4, rfl, rfl, rfl, w4⟩ := open_int Try.underlying22 (hval 4 22 v4 rfl rfl) h4
  have b4 := u32_bd w4
  obtain ⟨x5, rfl, rfl, rfl, w5⟩ := open_int Try.underlying22 (hval 5 22 v5 rfl rfl) h5
  have b5 := u32_bd w5
  have hp := and_1 x2
  have hq := and_31 x3
  clear hA0 hval0
  refine (lawt_any x0 x1 x2 x3 x4 x5 W b0.1 b0.2 b1.1 b1.2 (by omega) (by omega) (by omega) (by omega) b4.1 b4.2 b5.1 b5.2).mono fun e W' ⟨he, bel⟩ => ?_
  subst he
  exact ⟨_, rfl, _, _, _, [], _, [], hW', trodAll_mk1 (shut_bool Try.underlying4 _),
    trodAll_cons_mk (shut_int Try.underlying22 w0) (trodAll_cons_mk (shut_int Try.underlying22 w1) (trodAll_cons_mk (shut_int Try.underlying22 w2) (trodAll_cons_mk (shut_int Try.underlying22 w3) (trodAll_cons_mk (shut_int Try.underlying22 w4) (trodAll_cons_mk (shut_int Try.underlying22 w5) (trodAll_mk0)))))),
    rfl, bel.frame _, fun h => by cases h⟩

theorem tells_holds : Rows.FnJournalTellsSaid :=
  OpenClaim.holds_of_wide 4 Try.f4 rfl rfl rfl rfl rfl rfl rfl ⟨rfl, rfl, rfl, rfl, rfl⟩ rfl rfl rfl rfl rfl (by kernel_rfl) Try.func4 (by kernel_rfl)
    (of_decide_eq_true (by kernel_rfl)) (by unfold Func.isWrapper; first | (rw [if_pos (by decide +kernel)]; kernel_rfl) | (rw [if_neg (by decide +kernel)]; exact ⟨rfl, rfl⟩))
    (fun os started H enc _ => tells_lifted os started H enc)

#print axioms tells_holds

end Go.Proofs.Ytpgbafllipigfaa
