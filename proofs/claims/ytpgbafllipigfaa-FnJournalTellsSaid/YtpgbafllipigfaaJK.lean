/- Walks of impl.JournalBack and of the law FnJournalNew. -/
import Derived.Test.YtpgbafllipigfaaJI
namespace Go.Proofs.Ytpgbafllipigfaa
open Go.RowKit
attribute [local go_sem ↓] Go.wp_at_zero Go.wp_at_succ
set_option linter.unusedVariables false

theorem sub_eq {R C uu : Array Value} (hRz : 1024 ≤ R.size) (hR : ∀ i, i < 1024 → R[i]? = C[i]?) (huz : uu.size = 16) (hu : ∀ i, i < 16 → C[48 + i]? = uu[i]?) : sub R 48 16 = uu := by
  have hs : (sub R 48 16).size = 16 := by simp [sub]; omega
  apply Array.ext_getElem?
  intro i
  by_cases hi : i < 16
  · rw [← hu i hi, ← hR (48 + i) (by omega)]
    simp [sub, List.getElem?_take_of_lt hi]
  · rw [Array.getElem?_eq_none (by omega), Array.getElem?_eq_none (by omega)]

set_option maxRecDepth 100000 in
set_option maxHeartbeats 2000000 in
theorem jback_gen (bl bs : Int) (C : Array Value) (hCe : C = jNewB bl bs) (w : World) (a : 0 ≤ bl) (b : bl ≤ 4294967295) (c : 0 ≤ bs) (d : bs ≤ 4294967295) :
    Calls Try.prog 6 #[.string (strB C)] w fun e w' => e = .returned (.tuple #[.string (strB C), .bool true]) ∧ Below w.heap.size w w' := by
  obtain ⟨hby, hsz, r0, r4, r8, r12, r16, r20, r24, r28, r32, r36, r40, r44, r64, r68, r72, r76, r84, r88, r252, n80, hu48⟩ := jbytes_holds 3225106840 4 0 bl bs 1 1 0 0 0 1 0 32768 32768 4 0 0 0 uu0 C rfl uu0_bytes (by omega) (by omega) (by omega) (by omega) (by omega) (by omega) (by omega) (by omega) a b c d (by omega) (by omega) (by omega) (by omega) (by omega) (by omega) (by omega) (by omega) (by omega) (by omega) (by omega) (by omega) (by omega) (by omega) (by omega) (by omega) (by omega) (by omega) (by omega) (by omega) (by omega) (by omega) (by omega) (by omega) hCe
  obtain ⟨cap, W, R, hcv, hcap, hbW, hlt, hR, hRz, hC, -, hRget⟩ := conv_ex w C hby hsz
  have hsub := sub_eq hRz hRget uu0_size hu48
  have HF := Lib.hid (fb_any w.heap.size cap R C uu0 W hR hRz hC hlt hcap r0 r4 hsub uu0_size uu0_ones)
  have HB := Lib.hid hbW
  have HY := Lib.hid hby
  have HE := Lib.hid hCe
  clear hC hRget hsub hu48 hR hby hCe r0 r4 hlt hbW
  have HR : Hid (rd4 C 8 = 0 ∧ rd4 C 12 = bl ∧ rd4 C 16 = bs ∧ rd4 C 20 = 1 ∧ rd4 C 24 = 1 ∧ rd4 C 28 = 0 ∧ rd4 C 32 = 0 ∧ rd4 C 36 = 0 ∧ rd4 C 40 = 0 ∧ rd4 C 44 = 0 ∧ rd4 C 64 = 1 ∧ rd4 C 68 = 0 ∧ rd4 C 72 = 32768 ∧ rd4 C 76 = 32768 ∧ rd4 C 84 = 0 ∧ rd4 C 88 = 0 ∧ rd4 C 252 = 0 ∧ nb C 80 = 4) := Lib.hid ⟨r8, r12, r16, r20, r24, r28, r32, r36, r40, r44, r64, r68, r72, r76, r84, r88, r252, n80⟩
  clear r8 r12 r16 r20 r24 r28 r32 r36 r40 r44 r64 r68 r72 r76 r84 r88 r252 n80
  go_enter Try.func6, Try.ntmps6
  go_wp2_with fail
  refine HF.out.mono ?_
  rintro e w1 ⟨gj, gh, gu, rfl, hj, hh, hu, hb1⟩
  obtain ⟨r8, r12, r16, r20, r24, r28, r32, r36, r40, r44, r64, r68, r72, r76, r84, r88, r252, n80⟩ := HR.out
  rw [r12, r16, r20, r24, r28, r32, r36, r40, r44, r64, r68, r72, r76, r84, r88, r252, n80] at hj
  rw [r8] at hh
  clear r8 r12 r16 r20 r24 r28 r32 r36 r40 r44 r64 r68 r72 r76 r84 r88 r252 n80
  have HJ := Lib.hid hj
  have HH := Lib.hid hh
  have HU := Lib.hid hu
  clear hj hh hu HR HF
  go_wp2_with fail
  refine (tb_any gj gh gu 3225106840 4 0 bl bs 1 1 0 0 0 1 0 32768 32768 4 0 0 0 uu0 w1 HJ.out HH.out HU.out rfl uu0_ones (by omega) (by omega) (by omega) (by omega) (by omega) (by omega) a b c d (by omega) (by omega) (by omega) (by omega) (by omega) (by omega) (by omega) (by omega) (by omega) (by omega) (by omega) (by omega) (by omega) (by omega) (by omega) (by omega) (by omega) (by omega) (by omega) (by omega) (by omega) (by omega) (by omega) (by omega)).mono ?_
  rintro e w2 ⟨rfl, hc, hb2⟩
  have hc' : blkD w2 w1.heap.size = C := hc.trans HE.out.symm
  have hby := HY.out
  clear hc
  go_wp2
  go_region_held3 (fun w' => blkD w' w1.heap.size = C) (first | (with_reducible assumption) | (simp [go_sem, *]; done)) (fail)
  go_wp2
  go_ret2
  have k1 : Below w.heap.size w w1 := HB.out.trans (hb1.mono HB.out.size)
  exact ⟨rfl, (k1.trans (hb2.mono k1.size)).drew⟩
end Go.Proofs.Ytpgbafllipigfaa
