/- Walks of NewJournalSuperblock, impl.JournalNew, impl.JournalBack. -/
import Derived.Test.YtpgbafllipigfaaJH
namespace Go.Proofs.Ytpgbafllipigfaa
open Go.RowKit
attribute [local go_sem ↓] Go.wp_at_zero Go.wp_at_succ
set_option linter.unusedVariables false

/-- the number of 16 bytes that stands for a random one -/
def uu0 : Array Value := #[.int .u8 62, .int .u8 10, .int .u8 92, .int .u8 113, .int .u8 146, .int .u8 212, .int .u8 75, .int .u8 31, .int .u8 138, .int .u8 99, .int .u8 7, .int .u8 229, .int .u8 185, .int .u8 40, .int .u8 198, .int .u8 253]
theorem uu0_size : uu0.size = 16 := rfl
theorem uu0_ones : ones uu0 = true := by simp [ones, uu0, Value.oneCell']
theorem uu0_bytes : Bytes uu0 := fun i hi => by
  have hi' : i < 16 := hi
  rcases (show i = 0 ∨ i = 1 ∨ i = 2 ∨ i = 3 ∨ i = 4 ∨ i = 5 ∨ i = 6 ∨ i = 7 ∨ i = 8 ∨ i = 9 ∨ i = 10 ∨ i = 11 ∨ i = 12 ∨ i = 13 ∨ i = 14 ∨ i = 15 from by omega) with rfl | rfl | rfl | rfl | rfl | rfl | rfl | rfl | rfl | rfl | rfl | rfl | rfl | rfl | rfl | rfl
  all_goals exact ⟨rfl, by decide, by decide⟩

theorem rnd_any (w : World) : Calls Try.prog 17 #[] w fun e w' => e = .returned (.tuple #[.agg uu0, .nilIface]) ∧ w' = w.alloc (.cells uu0 45) := by
  go_enter Try.func17, Try.ntmps17
  go_wp2
  exact bodyPost_ret (v := .tuple #[.agg uu0, .nilIface]) (res_uu Try.results17 _ _ w.heap.size uu0 (by rfl) (by simp [go_sem, uu0]) rfl (by rfl)) rfl ⟨rfl, by simp [uu0]⟩

/-- a new superblock's fields -/
def jsNew (gh gu : Nat) (bl bs : Int) : Array Value := #[.pointer (some ⟨gh, 0, none⟩), .int .u32 bl, .int .u32 bs, .int .u32 1, .int .u32 1, .int .u32 0, .int .u32 0, .int .u32 0, .int .u32 0, .int .u32 0, .pointer (some ⟨gu, 0, none⟩), .int .u32 1, .int .u32 0, .int .u32 32768, .int .u32 32768, .int .u8 4, .int .u32 0, .int .u32 0, .int .u32 0]
set_option maxRecDepth 100000 in
set_option maxHeartbeats 2000000 in
theorem new_gen (uu : Array Value) (h16 : uu.size = 16) (hon : ones uu = true) (hr : ∀ W : World, Calls Try.prog 17 #[] W fun e w' => e = .returned (.tuple #[.agg uu, .nilIface]) ∧ w' = W.alloc (.cells uu 45)) (bl bs : Int) (w : World) :
    Calls Try.prog 9 #[.int .u32 bl, .int .u32 bs] w fun e w' => ∃ gj gh gu, e = .returned (.pointer (some ⟨gj, 0, none⟩)) ∧ blkD w' gj = jsNew gh gu bl bs ∧
    blkD w' gh = #[.int .u32 3225106840, .int .u32 4, .int .u32 0] ∧ blkD w' gu = uu ∧ Below w.heap.size w w' := by
  have HR := Lib.hid hr
  clear hr
  go_enter Try.func9, Try.ntmps9
  go_wp2_with fail
  refine (HR.out _).mono ?_
  rintro e w1 ⟨rfl, rfl⟩
  go_wp2
  go_ret
  refine ⟨w.heap.size + 1 + 1 + 1, w.heap.size + 1 + 1, w.heap.size + 1, rfl, by simp [go_sem, jsNew], by simp [go_sem], by simp [go_sem], ?_⟩
  repeat (first | (with_reducible exact Below.refl _ _) | (with_reducible refine Below.alloc ?_ ?_ _))
  all_goals (simp <;> omega)
theorem new_any (bl bs : Int) (w : World) : Calls Try.prog 9 #[.int .u32 bl, .int .u32 bs] w fun e w' => ∃ gj gh gu, e = .returned (.pointer (some ⟨gj, 0, none⟩)) ∧ blkD w' gj = jsNew gh gu bl bs ∧
    blkD w' gh = #[.int .u32 3225106840, .int .u32 4, .int .u32 0] ∧ blkD w' gu = uu0 ∧ Below w.heap.size w w' := new_gen uu0 uu0_size uu0_ones (fun W => rnd_any W) bl bs w

/-- a new superblock's bytes -/
def jNewB (bl bs : Int) : Array Value := jbytes 3225106840 4 0 bl bs 1 1 0 0 0 1 0 32768 32768 4 0 0 0 uu0

theorem jNewB_bytes (bl bs : Int) (a : 0 ≤ bl) (b : bl ≤ 4294967295) (c : 0 ≤ bs) (d : bs ≤ 4294967295) : Bytes (jNewB bl bs) ∧ (jNewB bl bs).size = 1024 := by
  have h := jbytes_holds 3225106840 4 0 bl bs 1 1 0 0 0 1 0 32768 32768 4 0 0 0 uu0 (jNewB bl bs) rfl uu0_bytes (by omega) (by omega) (by omega) (by omega) (by omega) (by omega) (by omega) (by omega) a b c d (by omega) (by omega) (by omega) (by omega) (by omega) (by omega) (by omega) (by omega) (by omega) (by omega) (by omega) (by omega) (by omega) (by omega) (by omega) (by omega) (by omega) (by omega) (by omega) (by omega) (by omega) (by omega) (by omega) (by omega) rfl
  exact ⟨h.1, h.2.1⟩

set_option maxRecDepth 100000 in
set_option maxHeartbeats 1000000 in
theorem jnew_any (bl bs : Int) (w : World) (a : 0 ≤ bl) (b : bl ≤ 4294967295) (c : 0 ≤ bs) (d : bs ≤ 4294967295) :
    Calls Try.prog 5 #[.int .u32 bl, .int .u32 bs] w fun e w' => e = .returned (.tuple #[.string (strB (jNewB bl bs)), .bool true]) ∧ Below w.heap.size w w' := by
  obtain ⟨hby, hsz⟩ := jNewB_bytes bl bs a b c d
  go_enter Try.func5, Try.ntmps5
  go_wp2_with fail
  refine (new_any bl bs _).mono ?_
  rintro e w1 ⟨gj, gh, gu, rfl, hj, hh, hu, hb1⟩
  have HJ := Lib.hid hj
  have HH := Lib.hid hh
  have HU := Lib.hid hu
  clear hj hh hu
  go_wp2_with fail
  refine (tb_any gj gh gu 3225106840 4 0 bl bs 1 1 0 0 0 1 0 32768 32768 4 0 0 0 uu0 w1 HJ.out HH.out HU.out rfl uu0_ones (by omega) (by omega) (by omega) (by omega) (by omega) (by omega) a b c d (by omega) (by omega) (by omega) (by omega) (by omega) (by omega) (by omega) (by omega) (by omega) (by omega) (by omega) (by omega) (by omega) (by omega) (by omega) (by omega) (by omega) (by omega) (by omega) (by omega) (by omega) (by omega) (by omega) (by omega)).mono ?_
  rintro e w2 ⟨rfl, hc, hb2⟩
  have hc' : blkD w2 w1.heap.size = jNewB bl bs := hc
  clear hc
  go_wp2
  go_region_held3 (fun w' => blkD w' w1.heap.size = jNewB bl bs) (first | (with_reducible assumption) | (simp [go_sem, *]; done)) (fail)
  go_wp2
  go_ret2
  exact ⟨rfl, (hb1.trans (hb2.mono hb1.size)).drew⟩
end Go.Proofs.Ytpgbafllipigfaa
