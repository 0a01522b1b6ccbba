/- Walks of the model's Do: places beyond the bits; whether a bit is set; the first free one from a place on. -/
import Derived.Test.YtbajengoblcmnaaN14
namespace Go.Proofs.Ytbajengoblcmnaa
open Go.RowKit
set_option linter.unusedVariables false

set_option maxHeartbeats 1000000 in
theorem do_out0 (A : Option Addr) (c : Nat) (ys : List Int) (at_ : Int) (data : ByteArray) (w : World) (hy : Byt ys) (hm : ys.length ≤ 1000) (h : BoolsAt w A (bitsOf ys)) (hout : ¬ inB ys at_) :
    Calls Try.prog 6 #[.slice A (8 * ys.length) c, .agg #[.int .i64 0, .int .i64 at_, .string data]] w (DoPost w ys 0 at_ data) := by
  have HI := Lib.hid h
  clear h
  obtain ⟨N, hN⟩ : ∃ N, N = 8 * ys.length := ⟨_, rfl⟩
  rw [← hN]
  have HN := Lib.hid hN
  clear hN
  have hN1 : N ≤ 8000 := by have := HN.out; omega
  have HOUT := Lib.hid hout
  have hor : at_ < 0 ∨ (N : Int) ≤ at_ := by
    have := HN.out
    unfold inB at hout
    omega
  clear hout
  rcases hor with hor | hor
  · have c0 : ¬ at_ ≥ 0 := by omega
    have c1 : at_ < (N : Int) := by omega
    go_enter Try.func6, Try.ntmps6
    go_wp2
    refine bodyPost_ret (results_cell33 Try.results6 _ _ (w.heap.size + 1) (.bool false) (.bool false) (.int .i64 0) (.slice none 0 0) (.string ⟨#[]⟩) (by rfl) (by simp [go_sem]) (by simp [go_sem]) (by simp [go_sem]) (by simp [go_sem]) (by simp [go_sem])) rfl ?_
    exact DoPost.mk (t := ⟨false, false, 0, [], ⟨#[]⟩⟩) (zs := ys) (by simp [behind, HOUT.out]) HN.out (by simp [saidB, HOUT.out]) (by simp [tell, HOUT.out]) (HI.out.below (((Below.refl _ _).alloc (Nat.le_refl _) _).alloc (by simp) _)) (TellAt.nil _ _ _ _ _ _) (((Below.refl _ _).alloc (Nat.le_refl _) _).alloc (by simp) _)
  · have c0 : at_ ≥ 0 := by omega
    have c1 : ¬ at_ < (N : Int) := by omega
    go_enter Try.func6, Try.ntmps6
    go_wp2
    refine bodyPost_ret (results_cell33 Try.results6 _ _ (w.heap.size + 1) (.bool false) (.bool false) (.int .i64 0) (.slice none 0 0) (.string ⟨#[]⟩) (by rfl) (by simp [go_sem]) (by simp [go_sem]) (by simp [go_sem]) (by simp [go_sem]) (by simp [go_sem])) rfl ?_
    exact DoPost.mk (t := ⟨false, false, 0, [], ⟨#[]⟩⟩) (zs := ys) (by simp [behind, HOUT.out]) HN.out (by simp [saidB, HOUT.out]) (by simp [tell, HOUT.out]) (HI.out.below (((Below.refl _ _).alloc (Nat.le_refl _) _).alloc (by simp) _)) (TellAt.nil _ _ _ _ _ _) (((Below.refl _ _).alloc (Nat.le_refl _) _).alloc (by simp) _)

set_option maxHeartbeats 1000000 in
theorem do_out1 (A : Option Addr) (c : Nat) (ys : List Int) (at_ : Int) (data : ByteArray) (w : World) (hy : Byt ys) (hm : ys.length ≤ 1000) (h : BoolsAt w A (bitsOf ys)) (hout : ¬ inB ys at_) :
    Calls Try.prog 6 #[.slice A (8 * ys.length) c, .agg #[.int .i64 1, .int .i64 at_, .string data]] w (DoPost w ys 1 at_ data) := by
  have HI := Lib.hid h
  clear h
  obtain ⟨N, hN⟩ : ∃ N, N = 8 * ys.length := ⟨_, rfl⟩
  rw [← hN]
  have HN := Lib.hid hN
  clear hN
  have hN1 : N ≤ 8000 := by have := HN.out; omega
  have HOUT := Lib.hid hout
  have hor : at_ < 0 ∨ (N : Int) ≤ at_ := by
    have := HN.out
    unfold inB at hout
    omega
  clear hout
  rcases hor with hor | hor
  · have c0 : ¬ at_ ≥ 0 := by omega
    have c1 : at_ < (N : Int) := by omega
    go_enter Try.func6, Try.ntmps6
    go_wp2
    refine bodyPost_ret (results_cell33 Try.results6 _ _ (w.heap.size + 1) (.bool false) (.bool false) (.int .i64 0) (.slice none 0 0) (.string ⟨#[]⟩) (by rfl) (by simp [go_sem]) (by simp [go_sem]) (by simp [go_sem]) (by simp [go_sem]) (by simp [go_sem])) rfl ?_
    exact DoPost.mk (t := ⟨false, false, 0, [], ⟨#[]⟩⟩) (zs := ys) (by simp [behind, HOUT.out]) HN.out (by simp [saidB, HOUT.out]) (by simp [tell, HOUT.out]) (HI.out.below (((Below.refl _ _).alloc (Nat.le_refl _) _).alloc (by simp) _)) (TellAt.nil _ _ _ _ _ _) (((Below.refl _ _).alloc (Nat.le_refl _) _).alloc (by simp) _)
  · have c0 : at_ ≥ 0 := by omega
    have c1 : ¬ at_ < (N : Int) := by omega
    go_enter Try.func6, Try.ntmps6
    go_wp2
    refine bodyPost_ret (results_cell33 Try.results6 _ _ (w.heap.size + 1) (.bool false) (.bool false) (.int .i64 0) (.slice none 0 0) (.string ⟨#[]⟩) (by rfl) (by simp [go_sem]) (by simp [go_sem]) (by simp [go_sem]) (by simp [go_sem]) (by simp [go_sem])) rfl ?_
    exact DoPost.mk (t := ⟨false, false, 0, [], ⟨#[]⟩⟩) (zs := ys) (by simp [behind, HOUT.out]) HN.out (by simp [saidB, HOUT.out]) (by simp [tell, HOUT.out]) (HI.out.below (((Below.refl _ _).alloc (Nat.le_refl _) _).alloc (by simp) _)) (TellAt.nil _ _ _ _ _ _) (((Below.refl _ _).alloc (Nat.le_refl _) _).alloc (by simp) _)

set_option maxHeartbeats 1000000 in
theorem do_out2 (A : Option Addr) (c : Nat) (ys : List Int) (at_ : Int) (data : ByteArray) (w : World) (hy : Byt ys) (hm : ys.length ≤ 1000) (h : BoolsAt w A (bitsOf ys)) (hout : ¬ inB ys at_) :
    Calls Try.prog 6 #[.slice A (8 * ys.length) c, .agg #[.int .i64 2, .int .i64 at_, .string data]] w (DoPost w ys 2 at_ data) := by
  have HI := Lib.hid h
  clear h
  obtain ⟨N, hN⟩ : ∃ N, N = 8 * ys.length := ⟨_, rfl⟩
  rw [← hN]
  have HN := Lib.hid hN
  clear hN
  have hN1 : N ≤ 8000 := by have := HN.out; omega
  have HOUT := Lib.hid hout
  have hor : at_ < 0 ∨ (N : Int) ≤ at_ := by
    have := HN.out
    unfold inB at hout
    omega
  clear hout
  rcases hor with hor | hor
  · have c0 : ¬ at_ ≥ 0 := by omega
    have c1 : at_ < (N : Int) := by omega
    go_enter Try.func6, Try.ntmps6
    go_wp2
    refine bodyPost_ret (results_cell33 Try.results6 _ _ (w.heap.size + 1) (.bool false) (.bool false) (.int .i64 0) (.slice none 0 0) (.string ⟨#[]⟩) (by rfl) (by simp [go_sem]) (by simp [go_sem]) (by simp [go_sem]) (by simp [go_sem]) (by simp [go_sem])) rfl ?_
    exact DoPost.mk (t := ⟨false, false, 0, [], ⟨#[]⟩⟩) (zs := ys) (by simp [behind, HOUT.out]) HN.out (by simp [saidB, HOUT.out]) (by simp [tell, HOUT.out]) (HI.out.below (((Below.refl _ _).alloc (Nat.le_refl _) _).alloc (by simp) _)) (TellAt.nil _ _ _ _ _ _) (((Below.refl _ _).alloc (Nat.le_refl _) _).alloc (by simp) _)
  · have c0 : at_ ≥ 0 := by omega
    have c1 : ¬ at_ < (N : Int) := by omega
    go_enter Try.func6, Try.ntmps6
    go_wp2
    refine bodyPost_ret (results_cell33 Try.results6 _ _ (w.heap.size + 1) (.bool false) (.bool false) (.int .i64 0) (.slice none 0 0) (.string ⟨#[]⟩) (by rfl) (by simp [go_sem]) (by simp [go_sem]) (by simp [go_sem]) (by simp [go_sem]) (by simp [go_sem])) rfl ?_
    exact DoPost.mk (t := ⟨false, false, 0, [], ⟨#[]⟩⟩) (zs := ys) (by simp [behind, HOUT.out]) HN.out (by simp [saidB, HOUT.out]) (by simp [tell, HOUT.out]) (HI.out.below (((Below.refl _ _).alloc (Nat.le_refl _) _).alloc (by simp) _)) (TellAt.nil _ _ _ _ _ _) (((Below.refl _ _).alloc (Nat.le_refl _) _).alloc (by simp) _)

set_option maxHeartbeats 1000000 in
theorem do_out3 (A : Option Addr) (c : Nat) (ys : List Int) (at_ : Int) (data : ByteArray) (w : World) (hy : Byt ys) (hm : ys.length ≤ 1000) (h : BoolsAt w A (bitsOf ys)) (hout : ¬ inB ys at_) :
    Calls Try.prog 6 #[.slice A (8 * ys.length) c, .agg #[.int .i64 3, .int .i64 at_, .string data]] w (DoPost w ys 3 at_ data) := by
  have HI := Lib.hid h
  clear h
  obtain ⟨N, hN⟩ : ∃ N, N = 8 * ys.length := ⟨_, rfl⟩
  rw [← hN]
  have HN := Lib.hid hN
  clear hN
  have hN1 : N ≤ 8000 := by have := HN.out; omega
  have HOUT := Lib.hid hout
  have hor : at_ < 0 ∨ (N : Int) ≤ at_ := by
    have := HN.out
    unfold inB at hout
    omega
  clear hout
  rcases hor with hor | hor
  · have c0 : ¬ at_ ≥ 0 := by omega
    have c1 : at_ < (N : Int) := by omega
    go_enter Try.func6, Try.ntmps6
    go_wp2
    refine bodyPost_ret (results_cell33 Try.results6 _ _ (w.heap.size + 1) (.bool true) (.bool false) (.int .i64 0) (.slice none 0 0) (.string ⟨#[]⟩) (by rfl) (by simp [go_sem]) (by simp [go_sem]) (by simp [go_sem]) (by simp [go_sem]) (by simp [go_sem])) rfl ?_
    exact DoPost.mk (t := ⟨true, false, 0, [], ⟨#[]⟩⟩) (zs := ys) (by simp [behind, HOUT.out]) HN.out (by simp [saidB, HOUT.out]) (by simp [tell, HOUT.out]) (HI.out.below (((Below.refl _ _).alloc (Nat.le_refl _) _).alloc (by simp) _)) (TellAt.nil _ _ _ _ _ _) (((Below.refl _ _).alloc (Nat.le_refl _) _).alloc (by simp) _)
  · have c0 : at_ ≥ 0 := by omega
    have c1 : ¬ at_ < (N : Int) := by omega
    go_enter Try.func6, Try.ntmps6
    go_wp2
    refine bodyPost_ret (results_cell33 Try.results6 _ _ (w.heap.size + 1) (.bool true) (.bool false) (.int .i64 0) (.slice none 0 0) (.string ⟨#[]⟩) (by rfl) (by simp [go_sem]) (by simp [go_sem]) (by simp [go_sem]) (by simp [go_sem]) (by simp [go_sem])) rfl ?_
    exact DoPost.mk (t := ⟨true, false, 0, [], ⟨#[]⟩⟩) (zs := ys) (by simp [behind, HOUT.out]) HN.out (by simp [saidB, HOUT.out]) (by simp [tell, HOUT.out]) (HI.out.below (((Below.refl _ _).alloc (Nat.le_refl _) _).alloc (by simp) _)) (TellAt.nil _ _ _ _ _ _) (((Below.refl _ _).alloc (Nat.le_refl _) _).alloc (by simp) _)

set_option maxHeartbeats 1000000 in
theorem do_is (A : Option Addr) (c : Nat) (ys : List Int) (p : Nat) (data : ByteArray) (w : World) (hy : Byt ys) (hm : ys.length ≤ 1000) (h : BoolsAt w A (bitsOf ys)) (hp : p < 8 * ys.length) :
    Calls Try.prog 6 #[.slice A (8 * ys.length) c, .agg #[.int .i64 2, .int .i64 p, .string data]] w (DoPost w ys 2 p data) := by
  have HBIT := Lib.hid (bitsOf_get ys p hp)
  have hin : inB ys p := ⟨by omega, by omega⟩
  have HIN := Lib.hid hin
  obtain ⟨gA, rfl, hgA, hcA⟩ := h p (by rw [bitsOf_len]; exact hp)
  rw [List.getD_eq_getElem?_getD, HBIT.out] at hcA
  have hcA : w.cell? ⟨gA, p, none⟩ = some (.bool (bitAt ys p)) := hcA
  clear hin
  have HI := Lib.hid h
  clear h
  obtain ⟨N, hN⟩ : ∃ N, N = 8 * ys.length := ⟨_, rfl⟩
  rw [← hN] at hp ⊢
  have HN := Lib.hid hN
  clear hN
  have hN1 : N ≤ 8000 := by have := HN.out; omega
  have c0 : (p : Int) ≥ 0 := by omega
  have c1 : (p : Int) < (N : Int) := by omega
  go_enter Try.func6, Try.ntmps6
  go_wp2
  refine bodyPost_ret (results_cell33 Try.results6 _ _ (w.heap.size + 1) (.bool true) (.bool (bitAt ys p)) (.int .i64 0) (.slice none 0 0) (.string ⟨#[]⟩) (by rfl) (by simp [go_sem]) (by simp [go_sem]) (by simp [go_sem]) (by simp [go_sem]) (by simp [go_sem])) rfl ?_
  exact DoPost.mk (t := ⟨true, bitAt ys p, 0, [], ⟨#[]⟩⟩) (zs := ys) rfl HN.out rfl (by simp [tell, HIN.out]) (HI.out.below (((Below.refl _ _).alloc (Nat.le_refl _) _).alloc (by simp) _)) (TellAt.nil _ _ _ _ _ _) (((Below.refl _ _).alloc (Nat.le_refl _) _).alloc (by simp) _)

set_option maxHeartbeats 1000000 in
theorem do_free (A : Option Addr) (c : Nat) (ys : List Int) (p : Nat) (data : ByteArray) (w : World) (hy : Byt ys) (hm : ys.length ≤ 1000) (h : BoolsAt w A (bitsOf ys)) (hp : p < 8 * ys.length) :
    Calls Try.prog 6 #[.slice A (8 * ys.length) c, .agg #[.int .i64 3, .int .i64 p, .string data]] w (DoPost w ys 3 p data) := by
  have hin : inB ys p := ⟨by omega, by omega⟩
  have HIN := Lib.hid hin
  clear hin
  have HI := Lib.hid h
  clear h
  obtain ⟨N, hN⟩ : ∃ N, N = 8 * ys.length := ⟨_, rfl⟩
  rw [← hN] at hp ⊢
  have HN := Lib.hid hN
  clear hN
  have hN1 : N ≤ 8000 := by have := HN.out; omega
  have c0 : (p : Int) ≥ 0 := by omega
  have c1 : (p : Int) < (N : Int) := by omega
  go_enter Try.func6, Try.ntmps6
  go_wp2_with fail
  refine (next_any A N c p (bitsOf ys) false _ (by rw [bitsOf_len, HN.out]) (by omega) (by omega) (HI.out.below (((Below.refl _ _).alloc (Nat.le_refl _) _).alloc (by simp) _))).mono ?_
  rintro e w' ⟨⟨r, rfl, hr⟩, rfl⟩
  have HR := Lib.hid hr
  clear hr
  go_wp2
  refine bodyPost_ret (results_cell33 Try.results6 _ _ (w.heap.size + 1) (.bool true) (.bool false) (.int .i64 r) (.slice none 0 0) (.string ⟨#[]⟩) (by rfl) (by simp [go_sem]) (by simp [go_sem]) (by simp [go_sem]) (by simp [go_sem]) (by simp [go_sem])) rfl ?_
  exact DoPost.mk (t := ⟨true, false, r, [], ⟨#[]⟩⟩) (zs := ys) rfl HN.out (by simp [saidB, HIN.out]) (by rw [HR.out.uniq (firstOf_is _ _ _)]; simp [tell, HIN.out]) (HI.out.below (((Below.refl _ _).alloc (Nat.le_refl _) _).alloc (by simp) _)) (TellAt.nil _ _ _ _ _ _) (((Below.refl _ _).alloc (Nat.le_refl _) _).alloc (by simp) _)

theorem do_any (A : Option Addr) (c : Nat) (ys : List Int) (k at_ : Int) (data : ByteArray) (w : World) (hk : 0 ≤ k ∧ k < 8) (hd : data.size ≤ 1000) (hy : Byt ys) (hm : ys.length ≤ 1000) (h : BoolsAt w A (bitsOf ys)) :
    Calls Try.prog 6 #[.slice A (8 * ys.length) c, .agg #[.int .i64 k, .int .i64 at_, .string data]] w (DoPost w ys k at_ data) := by
  rcases (show k = 0 ∨ k = 1 ∨ k = 2 ∨ k = 3 ∨ k = 4 ∨ k = 5 ∨ k = 6 ∨ k = 7 from by omega) with rfl | rfl | rfl | rfl | rfl | rfl | rfl | rfl
  case inr.inr.inr.inr.inl => exact do_first A c ys at_ data w hy hm h
  case inr.inr.inr.inr.inr.inl => exact do_rows A c ys at_ data w hy hm h
  case inr.inr.inr.inr.inr.inr.inl => exact do_bytes A c ys at_ data w hy hm h
  case inr.inr.inr.inr.inr.inr.inr => exact do_from A c ys at_ data w hy hm h hd
  all_goals
    by_cases hin : inB ys at_
    · obtain ⟨p, hp, rfl⟩ : ∃ p : Nat, p < 8 * ys.length ∧ at_ = p := ⟨at_.toNat, by have := hin.1; have := hin.2; omega, by have := hin.1; omega⟩
      first
        | exact do_set A c ys p data w hy hm h hp
        | exact do_clr A c ys p data w hy hm h hp
        | exact do_is A c ys p data w hy hm h hp
        | exact do_free A c ys p data w hy hm h hp
    · first
        | exact do_out0 A c ys at_ data w hy hm h hin
        | exact do_out1 A c ys at_ data w hy hm h hin
        | exact do_out2 A c ys at_ data w hy hm h hin
        | exact do_out3 A c ys at_ data w hy hm h hin
end Go.Proofs.Ytbajengoblcmnaa
