/- A row as a text and back; the readers of a text; what the superblock's bytes hold. -/
import Derived.Test.YtpgbafllipigfaaJF
import Derived.Laws.BytesArg
import Derived.Laws.IdiomStrings
import Derived.Outline
namespace Go.Proofs.Ytpgbafllipigfaa
open Go.RowKit
attribute [local go_sem ↓] Go.wp_at_zero Go.wp_at_succ
set_option linter.unusedVariables false

/-- the text of a row's bytes -/
def strB (C : Array Value) : ByteArray := strOfNums ((List.range C.size).map (nb C))
theorem size_strB (C : Array Value) : (strB C).size = C.size := by rw [strB, strOfNums_size]; simp
theorem get_strB {C : Array Value} (hB : Bytes C) (i : Nat) (h : i < (strB C).size) : (((strB C)[i]'h).toNat : Int) = nb C i := by
  have hi : i < C.size := by rw [size_strB] at h; exact h
  have hb := hB i hi
  show (((strB C).data[i]).toNat : Int) = _
  simp only [strB, strOfNums, List.getElem_toArray, List.getElem_map, List.getElem_range, UInt8.toNat_ofNat']
  omega
@[go_sem] theorem run_strB (w : World) (g n c : Nat) (h0 : 0 < n) (h : (blkD w g).size = n) (hB : Bytes (blkD w g)) :
    (convert 28 9 (.slice (some ⟨g, 0, none⟩) n c)).run Try.prog w = .ok (.string (strB (blkD w g))) w := by
  refine run_convert_bytes_arg w 28 5 Try.underlying28 Try.underlying5 g 0 n c _ (by simp; omega) (fun i hi => ?_) 9 Try.underlying9
  rw [Nat.zero_add, cell_blkD i (by omega), (hB i (by omega)).1]
  congr 2
  simp [List.getD, show i < (blkD w g).size from by omega]

/-- '[]byte(s)' of such a text -/
theorem conv_ex (w : World) (C : Array Value) (hB : Bytes C) (hz : C.size = 1024) : ∃ (cap : Nat) (W : World) (R : Array Value),
    (convert 9 28 (.string (strB C))).run Try.prog w = .ok (.slice (some ⟨w.heap.size, 0, none⟩) 1024 cap) W ∧ 1024 ≤ cap ∧ Below w.heap.size w W ∧ w.heap.size < W.heap.size ∧
    blkR W w.heap.size = R ∧ 1024 ≤ R.size ∧ CellsC W w.heap.size C ∧ (∀ i, i < 1024 → W.frozen? ⟨w.heap.size, i, none⟩ = false) ∧ (∀ i, i < 1024 → R[i]? = C[i]?) := by
  have hs := size_strB C
  have h := run_bytes_of_string (P := Try.prog) w 9 28 5 (strB C) Try.underlying9 Try.underlying28 Try.underlying5
  rw [hs, hz] at h
  have hcap := grownCap_ge w 1024 0 5
  generalize hcv : grownCap w 1024 0 5 = cap at h hcap
  obtain ⟨R, hR⟩ : ∃ R, R = bytesRow (strB C) cap := ⟨_, rfl⟩
  rw [← hR] at h
  have hRz : R.size = cap := by
    rw [hR, bytesRow]
    have : (strB C).data.size = 1024 := by rw [← hz, ← hs]; rfl
    simp [hs, hz, this]
    omega
  have hRget : ∀ i, i < 1024 → R[i]? = C[i]? := fun i hi => by
    have hd : i < (strB C).data.size := by rw [show (strB C).data.size = (strB C).size from rfl, hs, hz]; exact hi
    rw [hR, bytesRow, Array.getElem?_append_left (by simpa using hd), Array.getElem?_map, Array.getElem?_eq_getElem hd, (hB i (by omega)).1]
    have := get_strB hB i hd
    simp only [Option.map_some]
    congr 2
  have hheap : (w.drew.alloc (.cells R 5 (R.size, R.size + 1))).heap[w.heap.size]? = some (.cells R 5 (R.size, R.size + 1)) := heap_alloc_new w.drew _
  refine ⟨cap, _, R, h, hcap, (Below.refl _ _).drew.alloc (Nat.le_refl _) _, by simp, ?_, by omega, ?_, ?_, hRget⟩
  · unfold blkR; rw [hheap]
  · intro i hi
    refine ⟨?_, (hB i (by omega)).2⟩
    have hc : (w.drew.alloc (.cells R 5 (R.size, R.size + 1))).cell? ⟨w.heap.size, i, none⟩ = R[i]? := cell_of_row _ _ _ _ _ _ hheap
    rw [hc, hRget i hi, (hB i (by omega)).1]
  · intro i hi
    unfold World.frozen?
    rw [hheap]
    simp
    omega

theorem ret_i64 {a b : Int} (h : a = b) : Ending.returned (.int .i64 a) = .returned (.int .i64 b) := by rw [h]
theorem at_any (s : ByteArray) (i : Nat) (w : World) (hi : i < s.size) (hs : s.size ≤ 9223372036854775807) :
    Calls Try.prog 12 #[.string s, .int .i64 i] w fun e w' => e = .returned (.int .i64 ((s[i]'hi).toNat : Int)) ∧ w = w' := by
  go_enter Try.func12, Try.ntmps12
  go_wp2
  go_ret
  exact ⟨ret_i64 (IntWalk.wrap64_in _ ⟨by omega, by have := (s[i]'hi).toNat_lt; omega⟩), rfl⟩

theorem or4h (y0 y1 y2 y3 : Int) (a0 : 0 ≤ y0) (b0 : y0 < 256) (a1 : 0 ≤ y1) (b1 : y1 < 256) (a2 : 0 ≤ y2) (b2 : y2 < 256) (a3 : 0 ≤ y3) (b3 : y3 < 256) :
    bits BinOp.or IntKind.i64 (bits BinOp.or IntKind.i64 (bits BinOp.or IntKind.i64 (y0 * 16777216) (y1 * 65536)) (y2 * 256)) y3 = y0 * 16777216 + y1 * 65536 + y2 * 256 + y3 := by
  have hk : ∀ n : Int, 0 ≤ n → n < 2 ^ 40 → IntKind.i64.wrap n = n := fun n h0 h1 => IntWalk.i64_in n (by omega)
  rw [bits_join .i64 40 (by decide) hk 24 (y0 * 16777216) (y1 * 65536) (by omega) (by omega) (by omega) (by omega) (by omega) (by omega),
    bits_join .i64 40 (by decide) hk 16 (y0 * 16777216 + y1 * 65536) (y2 * 256) (by omega) (by omega) (by omega) (by omega) (by omega) (by omega),
    bits_join .i64 40 (by decide) hk 8 (y0 * 16777216 + y1 * 65536 + y2 * 256) y3 (by omega) (by omega) (by omega) (by omega) (by omega) (by omega)]

set_option maxHeartbeats 1000000 in
theorem big_any (s : ByteArray) (i : Nat) (y0 y1 y2 y3 : Int) (w : World) (hi : i + 3 < s.size) (hs : s.size ≤ 100000) (e0 : ((s[i]'(by omega)).toNat : Int) = y0) (e1 : ((s[i + 1]'(by omega)).toNat : Int) = y1) (e2 : ((s[i + 2]'(by omega)).toNat : Int) = y2) (e3 : ((s[i + 3]'hi).toNat : Int) = y3) :
    Calls Try.prog 7 #[.string s, .int .i64 i] w fun e w' => e = .returned (.int .u32 (y0 * 16777216 + y1 * 65536 + y2 * 256 + y3)) ∧ w = w' := by
  have hb : ∀ x : UInt8, (0 : Int) ≤ (x.toNat : Int) ∧ (x.toNat : Int) < 256 := fun x => ⟨by omega, by have := x.toNat_lt; omega⟩
  have b0 := hb (s[i]'(by omega))
  have b1 := hb (s[i + 1]'(by omega))
  have b2 := hb (s[i + 2]'(by omega))
  have b3 := hb (s[i + 3]'hi)
  rw [e0] at b0; rw [e1] at b1; rw [e2] at b2; rw [e3] at b3
  have h4 := Lib.hid (or4h y0 y1 y2 y3 b0.1 b0.2 b1.1 b1.2 b2.1 b2.2 b3.1 b3.2)
  have k0 : Calls Try.prog 12 #[.string s, .int .i64 i] w fun e w' => e = .returned (.int .i64 y0) ∧ w = w' := e0 ▸ at_any s i w (by omega) (by omega)
  have k1 : Calls Try.prog 12 #[.string s, .int .i64 (i + 1)] w fun e w' => e = .returned (.int .i64 y1) ∧ w = w' := e1 ▸ at_any s (i + 1) w (by omega) (by omega)
  have k2 : Calls Try.prog 12 #[.string s, .int .i64 (i + 2)] w fun e w' => e = .returned (.int .i64 y2) ∧ w = w' := e2 ▸ at_any s (i + 2) w (by omega) (by omega)
  have k3 : Calls Try.prog 12 #[.string s, .int .i64 (i + 3)] w fun e w' => e = .returned (.int .i64 y3) ∧ w = w' := e3 ▸ at_any s (i + 3) w (by omega) (by omega)
  have K0 := Lib.hid k0
  have K1 := Lib.hid k1
  have K2 := Lib.hid k2
  have K3 := Lib.hid k3
  clear k0 k1 k2 k3 e0 e1 e2 e3 hb
  go_enter Try.func7, Try.ntmps7
  go_wp2_with fail
  refine K0.out.mono ?_
  rintro e w' ⟨rfl, rfl⟩
  go_wp2_with fail
  refine K1.out.mono ?_
  rintro e w' ⟨rfl, rfl⟩
  go_wp2_with fail
  refine K2.out.mono ?_
  rintro e w' ⟨rfl, rfl⟩
  go_wp2_with fail
  refine K3.out.mono ?_
  rintro e w' ⟨rfl, rfl⟩
  go_wp2_with fail
  go_ret
  refine ⟨ret_u32 ?_, rfl⟩
  rw [h4.out]
  omega
end Go.Proofs.Ytpgbafllipigfaa
