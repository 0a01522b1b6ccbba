/- Walks of impl.JournalTells and of the superblock's four readers. -/
import Derived.Test.YtpgbafllipigfaaJL
namespace Go.Proofs.Ytpgbafllipigfaa
open Go.RowKit
attribute [local go_sem ↓] Go.wp_at_zero Go.wp_at_succ
set_option linter.unusedVariables false

theorem sc_any (gj : Nat) (J : Array Value) (f7 y : Int) (w : World) (hj : w.cell? ⟨gj, 7, none⟩ = some (.int .u32 f7)) :
    Calls Try.prog 14 #[.pointer (some ⟨gj, 0, none⟩), .int .u32 y] w fun e w' => e = .returned (.bool (bits BinOp.and IntKind.u32 f7 y != 0)) ∧ w = w' := by
  go_enter Try.func14, Try.ntmps14
  go_wp2
  go_ret
  exact ⟨rfl, rfl⟩
theorem sf_any (gj : Nat) (J : Array Value) (f8 y : Int) (w : World) (hj : w.cell? ⟨gj, 8, none⟩ = some (.int .u32 f8)) :
    Calls Try.prog 15 #[.pointer (some ⟨gj, 0, none⟩), .int .u32 y] w fun e w' => e = .returned (.bool (bits BinOp.and IntKind.u32 f8 y != 0)) ∧ w = w' := by
  go_enter Try.func15, Try.ntmps15
  go_wp2
  go_ret
  exact ⟨rfl, rfl⟩
theorem u64_any (gj : Nat) (J : Array Value) (f8 : Int) (w : World) (hj : w.cell? ⟨gj, 8, none⟩ = some (.int .u32 f8)) :
    Calls Try.prog 16 #[.pointer (some ⟨gj, 0, none⟩)] w fun e w' => e = .returned (.bool (bits BinOp.and IntKind.u32 f8 2 != 0)) ∧ w = w' := by
  go_enter Try.func16, Try.ntmps16
  go_wp2
  go_ret
  exact ⟨rfl, rfl⟩
theorem hs_any (gj : Nat) (J : Array Value) (f7 f8 : Int) (w : World) (hj : w.cell? ⟨gj, 7, none⟩ = some (.int .u32 f7)) (hk : w.cell? ⟨gj, 8, none⟩ = some (.int .u32 f8)) :
    Calls Try.prog 13 #[.pointer (some ⟨gj, 0, none⟩)] w fun e w' => e = .returned (.bool (bits BinOp.and IntKind.u32 f7 1 != 0 || (bits BinOp.and IntKind.u32 f8 8 != 0 || bits BinOp.and IntKind.u32 f8 16 != 0))) ∧ w = w' := by
  go_enter Try.func13, Try.ntmps13
  go_wp2
  all_goals (go_ret; refine ⟨?_, rfl⟩; simp [*])

theorem results_tmp5 {fn : Func} {t u v x y : Tmp} (h : fn.results = #[.tmp t, .tmp u, .tmp v, .tmp x, .tmp y]) (tmps : Array Value) (P : Program) (w : World) :
    (results fn tmps).run P w = .ok (.tuple #[tmps.getD t undef, tmps.getD u undef, tmps.getD v undef, tmps.getD x undef, tmps.getD y undef]) w := by
  simp [results, h]

/-- what impl.JournalTells says of a text with the two words p, q -/
def tells (p q x y : Int) : Value := .tuple #[.bool (bits BinOp.and IntKind.u32 p 1 != 0 || (bits BinOp.and IntKind.u32 q 8 != 0 || bits BinOp.and IntKind.u32 q 16 != 0)), .bool (bits BinOp.and IntKind.u32 p x != 0), .bool (bits BinOp.and IntKind.u32 q y != 0), .bool (bits BinOp.and IntKind.u32 q 2 != 0), .bool true]

set_option maxRecDepth 100000 in
set_option maxHeartbeats 2000000 in
theorem jtells_any (C : Array Value) (p q x y : Int) (w : World) (hby : Bytes C) (hsz : C.size = 1024) (r0 : rd4 C 0 = 3225106840) (r4 : rd4 C 4 = 4) (r36 : rd4 C 36 = p) (r40 : rd4 C 40 = q) (hu48 : ∀ i, i < 16 → C[48 + i]? = uu0[i]?) :
    Calls Try.prog 8 #[.string (strB C), .int .u32 x, .int .u32 y] w fun e w' => e = .returned (tells p q x y) ∧ Below w.heap.size w w' := by
  obtain ⟨cap, W, R, hcv, hcap, hbW, hlt, hR, hRz, hC, -, hRget⟩ := conv_ex w C hby hsz
  have hsub := sub_eq hRz hRget uu0_size hu48
  have HF := Lib.hid (fb_any w.heap.size cap R C uu0 W hR hRz hC hlt hcap r0 r4 hsub uu0_size uu0_ones)
  have HB := Lib.hid hbW
  have H36 := Lib.hid r36
  have H40 := Lib.hid r40
  clear hC hRget hsub hu48 hR hby r0 r4 hlt hbW r36 r40
  go_enter Try.func8, Try.ntmps8
  go_wp2_with fail
  refine HF.out.mono ?_
  rintro e w1 ⟨gj, gh, gu, rfl, hj, hh, hu, hb1⟩
  have c7 : w1.cell? ⟨gj, 7, none⟩ = some (.int .u32 p) := by rw [cell_blkD 7 (by rw [hj]; simp), hj, ← H36.out]; rfl
  have c8 : w1.cell? ⟨gj, 8, none⟩ = some (.int .u32 q) := by rw [cell_blkD 8 (by rw [hj]; simp), hj, ← H40.out]; rfl
  have K13 := Lib.hid (hs_any gj #[] p q w1 c7 c8)
  have K14 := Lib.hid (sc_any gj #[] p x w1 c7)
  have K15 := Lib.hid (sf_any gj #[] q y w1 c8)
  have K16 := Lib.hid (u64_any gj #[] q w1 c8)
  clear c7 c8 hj hh hu
  go_wp2_with fail
  refine K13.out.mono ?_
  rintro e w' ⟨rfl, rfl⟩
  go_wp2_with fail
  refine K14.out.mono ?_
  rintro e w' ⟨rfl, rfl⟩
  go_wp2_with fail
  refine K15.out.mono ?_
  rintro e w' ⟨rfl, rfl⟩
  go_wp2_with fail
  refine K16.out.mono ?_
  rintro e w' ⟨rfl, rfl⟩
  go_wp2_with fail
  (try simp only [Exit.inBlock, Exit.then])
  refine bodyPost_ret (results_tmp5 Try.results8 _ _ _) rfl ?_
  exact ⟨rfl, HB.out.trans (hb1.mono HB.out.size)⟩
end Go.Proofs.Ytpgbafllipigfaa
