/- Walk of JournalSuperblock.ToBytes, with no features. -/
import Derived.Test.YtpgbafllipigfaaJB
namespace Go.Proofs.Ytpgbafllipigfaa
open Go.RowKit
attribute [local go_sem ↓] Go.wp_at_zero Go.wp_at_succ
attribute [go_sem] size_sp

theorem s_u8 : (Try.prog.info? 5).map (·.size) = some 1 := by kernel_rfl
theorem info_u8 : (Try.prog.info? 5).map (fun i => (i.zero, i.size, i.bytes)) = some (some (.int .u8 0), 1, 1) := by kernel_rfl
@[go_sem] theorem mk1024 (w : World) : (Instr.makeSlice 28 (.int .i64 1024) (.int .i64 1024)).run Try.prog w = .ok (.slice (some ⟨w.heap.size, 0, none⟩) 1024 1024) (w.alloc (.cells zero1024 5)) := by
  obtain ⟨i0, hi, hz0, hz1, hz2⟩ := info_parts info_u8
  have h := run_make (P := Try.prog) w 28 5 i0 (.int .u8 0) Try.underlying28 hi hz0 .i64 .i64 1024 1024 (by omega) (by omega) (by rw [hz2]; omega) (by omega)
  have hz : madeCells (Value.int IntKind.u8 0).cells ((1024 : Int).toNat * i0.size) = zero1024 := by
    rw [hz1]
    apply Array.ext
    · simp [size_madeCells, zero1024]
    · intro k h1 h2
      simp [madeCells, zero1024, Value.cells, Nat.mod_one]
  rw [hz] at h
  exact h
/-- each value is one cell -/
def ones (A : Array Value) : Bool := A.all (·.oneCell')
@[go_sem] theorem one_hdB (h0 h1 h2 : Int) : ones (hdB h0 h1 h2) = true := by simp [ones, hdB, Value.oneCell']
@[go_sem] theorem run_copy_sp (w : World) (g o n c g2 n2 c2 : Nat) (ty : TypeId) (h : o + n2 ≤ (blkD w g).size) (h0 : 0 < (blkD w g).size) (_h20 : 0 < n2) (h2 : (blkD w g2).size = n2) (hle : n2 ≤ n) (h1 : ones (blkD w g2) = true) :
    (Builtin.copy_ #[28, 28] ty #[.slice (some ⟨g, o, none⟩) n c, .slice (some ⟨g2, 0, none⟩) n2 c2]).run Try.prog w = .ok (goInt n2) (w.setRow g (sp (blkD w g) o (blkD w g2))) := by
  obtain ⟨m, hm⟩ : ∃ m, (blkD w g).size = m + 1 := ⟨(blkD w g).size - 1, by omega⟩
  obtain ⟨t, ht⟩ := blkD_heap hm
  have hl : (blkD w g2).toList.length = n2 := by simpa using h2
  have := run_copy_row (P := Try.prog) w 28 28 ty 5 g o n c ⟨g2, 0, none⟩ n2 c2 (blkD w g) t (blkD w g2).toList Try.underlying28 s_u8 ht (by rw [hl]; exact (Nat.min_eq_left hle).symm)
    (fun j v hj => by
      have hj2 : j < n2 := by
        rcases Nat.lt_or_ge j n2 with hh | hh
        · exact hh
        · rw [List.getElem?_eq_none (by rw [hl]; exact hh)] at hj; cases hj
      have hp : (⟨g2, 0, none⟩ : Addr).add j = ⟨g2, j, none⟩ := by
        unfold Addr.add
        split
        · rename_i e; rw [e]
        · simp
      rw [hp, cell_blkD j (by omega), ← hj]
      simp)
    (by rw [hl]; exact h) (fun v hv => by
      simp only [ones, Array.all_eq_true_iff_forall_mem] at h1
      exact h1 v (by simpa using hv))
  rw [this, hl]
  unfold sp
  rw [h2]

@[go_sem] theorem and0_16 : bits BinOp.and IntKind.u32 0 16 = 0 := by decide
@[go_sem] theorem and0_1 : bits BinOp.and IntKind.u32 0 1 = 0 := by decide
theorem ex_get {C : Array Value} {i : Nat} (h : i < C.size) : ∃ u, C[i]? = some u := ⟨_, Array.getElem?_eq_getElem h⟩
/-- the bytes of a superblock without features -/
def jbytes (h0 h1 h2 f1 f2 f3 f4 f5 f6 f9 f11 f12 f13 f14 f15 f16 f17 f18 : Int) (uu : Array Value) : Array Value := (put4 (put4 (put4 ((put4 (put4 (put4 (put4 (sp (put4 (put4 (put4 (put4 (put4 (put4 (put4 (put4 (put4 (sp zero1024 0 (hdB h0 h1 h2)) 12 f1) 16 f2) 20 f3) 24 f4) 28 f5) 32 f6) 36 0) 40 0) 44 f9) 48 uu) 64 f11) 68 f12) 72 f13) 76 f14).setIfInBounds 80 (.int .u8 f15)) 84 f16) 88 f17) 252 f18)

set_option maxRecDepth 100000 in
set_option maxHeartbeats 4000000 in
theorem tb_any (gj gh gu : Nat) (h0 h1 h2 f1 f2 f3 f4 f5 f6 f9 f11 f12 f13 f14 f15 f16 f17 f18 : Int) (uu : Array Value) (w : World) (hj : blkD w gj = #[.pointer (some ⟨gh, 0, none⟩), .int .u32 f1, .int .u32 f2, .int .u32 f3, .int .u32 f4, .int .u32 f5, .int .u32 f6, .int .u32 0, .int .u32 0, .int .u32 f9, .pointer (some ⟨gu, 0, none⟩), .int .u32 f11, .int .u32 f12, .int .u32 f13, .int .u32 f14, .int .u8 f15, .int .u32 f16, .int .u32 f17, .int .u32 f18]) (hh : blkD w gh = #[.int .u32 h0, .int .u32 h1, .int .u32 h2]) (hu : blkD w gu = uu) (huz : uu.size = 16) (huo : ones uu = true)
    (c0 : 0 ≤ h0) (d0 : h0 ≤ 4294967295) (c1 : 0 ≤ h1) (d1 : h1 ≤ 4294967295) (c2 : 0 ≤ h2) (d2 : h2 ≤ 4294967295) (a1 : 0 ≤ f1) (b1 : f1 ≤ 4294967295) (a2 : 0 ≤ f2) (b2 : f2 ≤ 4294967295) (a3 : 0 ≤ f3) (b3 : f3 ≤ 4294967295) (a4 : 0 ≤ f4) (b4 : f4 ≤ 4294967295) (a5 : 0 ≤ f5) (b5 : f5 ≤ 4294967295) (a6 : 0 ≤ f6) (b6 : f6 ≤ 4294967295) (a9 : 0 ≤ f9) (b9 : f9 ≤ 4294967295) (a11 : 0 ≤ f11) (b11 : f11 ≤ 4294967295) (a12 : 0 ≤ f12) (b12 : f12 ≤ 4294967295) (a13 : 0 ≤ f13) (b13 : f13 ≤ 4294967295) (a14 : 0 ≤ f14) (b14 : f14 ≤ 4294967295) (a16 : 0 ≤ f16) (b16 : f16 ≤ 4294967295) (a17 : 0 ≤ f17) (b17 : f17 ≤ 4294967295) (a18 : 0 ≤ f18) (b18 : f18 ≤ 4294967295) :
    Calls Try.prog 10 #[.pointer (some ⟨gj, 0, none⟩)] w fun e w' => e = .returned (.tuple #[.slice (some ⟨w.heap.size, 0, none⟩) 1024 1024, .nilIface]) ∧
      blkD w' w.heap.size = jbytes h0 h1 h2 f1 f2 f3 f4 f5 f6 f9 f11 f12 f13 f14 f15 f16 f17 f18 uu ∧ Below w.heap.size w w' := by
  have hg1 : gj < w.heap.size := blkD_lt (i := 0) (by rw [hj]; simp)
  have hg2 : gh < w.heap.size := blkD_lt (i := 0) (by rw [hh]; simp)
  have hg3 : gu < w.heap.size := blkD_lt (i := 0) (by rw [hu, huz]; omega)
  have n1 : ¬ w.heap.size = gj := by omega
  have n2 : ¬ w.heap.size = gh := by omega
  have n3 : ¬ w.heap.size = gu := by omega
  obtain ⟨q1, q2, q3, q4, q5, q6, q7, q8, q9, q10, q11, q12, q13, q14, q15, q16, q17, q18, q19, q20, q21, q22, q23, q24⟩ := lt_all hg1
  obtain ⟨r1, r2, r3, r4, r5, r6, r7, r8, r9, r10, r11, r12, r13, r14, r15, r16, r17, r18, r19, r20, r21, r22, r23, r24⟩ := lt_all hg2
  obtain ⟨z1, z2, z3, z4, z5, z6, z7, z8, z9, z10, z11, z12, z13, z14, z15, z16, z17, z18, z19, z20, z21, z22, z23, z24⟩ := lt_all hg3
  obtain ⟨u80, hu80⟩ : ∃ u, ((put4 (put4 (put4 (put4 (sp (put4 (put4 (put4 (put4 (put4 (put4 (put4 (put4 (put4 (sp zero1024 0 (hdB h0 h1 h2)) 12 f1) 16 f2) 20 f3) 24 f4) 28 f5) 32 f6) 36 0) 40 0) 44 f9) 48 uu) 64 f11) 68 f12) 72 f13) 76 f14))[80]? = some u := ex_get (by simp [go_sem, huz])
  go_enter Try.func10, Try.ntmps10
  go_wp2_with (first | (go_at_call 18; refine (htb_any gh h0 h1 h2 _ ?_ c0 d0 c1 d1 c2 d2).mono ?_; (simp [go_sem, *]); rintro e w1 ⟨rfl, rfl⟩))
  go_region_held3 (fun w' => blkD w' gj = #[.pointer (some ⟨gh, 0, none⟩), .int .u32 f1, .int .u32 f2, .int .u32 f3, .int .u32 f4, .int .u32 f5, .int .u32 f6, .int .u32 0, .int .u32 0, .int .u32 f9, .pointer (some ⟨gu, 0, none⟩), .int .u32 f11, .int .u32 f12, .int .u32 f13, .int .u32 f14, .int .u8 f15, .int .u32 f16, .int .u32 f17, .int .u32 f18]) (first | (with_reducible assumption) | (simp [go_sem, *]; done))
    (first | (go_at_call 19; refine (pu_any _ _ _ _ _ ?_ ?_ ?_).mono ?_; omega; omega; (simp [go_sem, *]); rintro e w1 ⟨rfl, rfl⟩))
  go_wp2
  go_region_held3 (fun w' => blkD w' gj = #[.pointer (some ⟨gh, 0, none⟩), .int .u32 f1, .int .u32 f2, .int .u32 f3, .int .u32 f4, .int .u32 f5, .int .u32 f6, .int .u32 0, .int .u32 0, .int .u32 f9, .pointer (some ⟨gu, 0, none⟩), .int .u32 f11, .int .u32 f12, .int .u32 f13, .int .u32 f14, .int .u8 f15, .int .u32 f16, .int .u32 f17, .int .u32 f18]) (first | (with_reducible assumption) | (simp [go_sem, *]; done))
    (first | (go_at_call 19; refine (pu_any _ _ _ _ _ ?_ ?_ ?_).mono ?_; omega; omega; (simp [go_sem, *]); rintro e w1 ⟨rfl, rfl⟩))
  go_wp2
  go_region_held3 (fun w' => blkD w' gj = #[.pointer (some ⟨gh, 0, none⟩), .int .u32 f1, .int .u32 f2, .int .u32 f3, .int .u32 f4, .int .u32 f5, .int .u32 f6, .int .u32 0, .int .u32 0, .int .u32 f9, .pointer (some ⟨gu, 0, none⟩), .int .u32 f11, .int .u32 f12, .int .u32 f13, .int .u32 f14, .int .u8 f15, .int .u32 f16, .int .u32 f17, .int .u32 f18]) (first | (with_reducible assumption) | (simp [go_sem, *]; done))
    (first | (go_at_call 19; refine (pu_any _ _ _ _ _ ?_ ?_ ?_).mono ?_; omega; omega; (simp [go_sem, *]); rintro e w1 ⟨rfl, rfl⟩))
  go_wp2
  go_region_held3 (fun w' => blkD w' gj = #[.pointer (some ⟨gh, 0, none⟩), .int .u32 f1, .int .u32 f2, .int .u32 f3, .int .u32 f4, .int .u32 f5, .int .u32 f6, .int .u32 0, .int .u32 0, .int .u32 f9, .pointer (some ⟨gu, 0, none⟩), .int .u32 f11, .int .u32 f12, .int .u32 f13, .int .u32 f14, .int .u8 f15, .int .u32 f16, .int .u32 f17, .int .u32 f18]) (first | (with_reducible assumption) | (simp [go_sem, *]; done))
    (first | (go_at_call 19; refine (pu_any _ _ _ _ _ ?_ ?_ ?_).mono ?_; omega; omega; (simp [go_sem, *]); rintro e w1 ⟨rfl, rfl⟩))
  go_wp2
  go_region_held3 (fun w' => blkD w' gj = #[.pointer (some ⟨gh, 0, none⟩), .int .u32 f1, .int .u32 f2, .int .u32 f3, .int .u32 f4, .int .u32 f5, .int .u32 f6, .int .u32 0, .int .u32 0, .int .u32 f9, .pointer (some ⟨gu, 0, none⟩), .int .u32 f11, .int .u32 f12, .int .u32 f13, .int .u32 f14, .int .u8 f15, .int .u32 f16, .int .u32 f17, .int .u32 f18]) (first | (with_reducible assumption) | (simp [go_sem, *]; done))
    (first | (go_at_call 19; refine (pu_any _ _ _ _ _ ?_ ?_ ?_).mono ?_; omega; omega; (simp [go_sem, *]); rintro e w1 ⟨rfl, rfl⟩))
  go_wp2
  go_region_held3 (fun w' => blkD w' gj = #[.pointer (some ⟨gh, 0, none⟩), .int .u32 f1, .int .u32 f2, .int .u32 f3, .int .u32 f4, .int .u32 f5, .int .u32 f6, .int .u32 0, .int .u32 0, .int .u32 f9, .pointer (some ⟨gu, 0, none⟩), .int .u32 f11, .int .u32 f12, .int .u32 f13, .int .u32 f14, .int .u8 f15, .int .u32 f16, .int .u32 f17, .int .u32 f18]) (first | (with_reducible assumption) | (simp [go_sem, *]; done))
    (first | (go_at_call 19; refine (pu_any _ _ _ _ _ ?_ ?_ ?_).mono ?_; omega; omega; (simp [go_sem, *]); rintro e w1 ⟨rfl, rfl⟩))
  go_wp2
  go_region_held3 (fun w' => blkD w' gj = #[.pointer (some ⟨gh, 0, none⟩), .int .u32 f1, .int .u32 f2, .int .u32 f3, .int .u32 f4, .int .u32 f5, .int .u32 f6, .int .u32 0, .int .u32 0, .int .u32 f9, .pointer (some ⟨gu, 0, none⟩), .int .u32 f11, .int .u32 f12, .int .u32 f13, .int .u32 f14, .int .u8 f15, .int .u32 f16, .int .u32 f17, .int .u32 f18]) (first | (with_reducible assumption) | (simp [go_sem, *]; done))
    (first | (go_at_call 19; refine (pu_any _ _ _ _ _ ?_ ?_ ?_).mono ?_; omega; omega; (simp [go_sem, *]); rintro e w1 ⟨rfl, rfl⟩))
  go_wp2
  go_region_held3 (fun w' => blkD w' gj = #[.pointer (some ⟨gh, 0, none⟩), .int .u32 f1, .int .u32 f2, .int .u32 f3, .int .u32 f4, .int .u32 f5, .int .u32 f6, .int .u32 0, .int .u32 0, .int .u32 f9, .pointer (some ⟨gu, 0, none⟩), .int .u32 f11, .int .u32 f12, .int .u32 f13, .int .u32 f14, .int .u8 f15, .int .u32 f16, .int .u32 f17, .int .u32 f18]) (first | (with_reducible assumption) | (simp [go_sem, *]; done))
    (first | (go_at_call 19; refine (pu_any _ _ _ _ _ ?_ ?_ ?_).mono ?_; omega; omega; (simp [go_sem, *]); rintro e w1 ⟨rfl, rfl⟩))
  go_wp2
  go_region_held3 (fun w' => blkD w' gj = #[.pointer (some ⟨gh, 0, none⟩), .int .u32 f1, .int .u32 f2, .int .u32 f3, .int .u32 f4, .int .u32 f5, .int .u32 f6, .int .u32 0, .int .u32 0, .int .u32 f9, .pointer (some ⟨gu, 0, none⟩), .int .u32 f11, .int .u32 f12, .int .u32 f13, .int .u32 f14, .int .u8 f15, .int .u32 f16, .int .u32 f17, .int .u32 f18]) (first | (with_reducible assumption) | (simp [go_sem, *]; done))
    (first | (go_at_call 19; refine (pu_any _ _ _ _ _ ?_ ?_ ?_).mono ?_; omega; omega; (simp [go_sem, *]); rintro e w1 ⟨rfl, rfl⟩))
  go_wp2
  go_region_held3 (fun w' => blkD w' gj = #[.pointer (some ⟨gh, 0, none⟩), .int .u32 f1, .int .u32 f2, .int .u32 f3, .int .u32 f4, .int .u32 f5, .int .u32 f6, .int .u32 0, .int .u32 0, .int .u32 f9, .pointer (some ⟨gu, 0, none⟩), .int .u32 f11, .int .u32 f12, .int .u32 f13, .int .u32 f14, .int .u8 f15, .int .u32 f16, .int .u32 f17, .int .u32 f18] ∧ blkD w' gu = uu) (first | (with_reducible assumption) | (simp [go_sem, *]; done)) (fail)
  go_wp2
  go_region_held3 (fun w' => blkD w' gj = #[.pointer (some ⟨gh, 0, none⟩), .int .u32 f1, .int .u32 f2, .int .u32 f3, .int .u32 f4, .int .u32 f5, .int .u32 f6, .int .u32 0, .int .u32 0, .int .u32 f9, .pointer (some ⟨gu, 0, none⟩), .int .u32 f11, .int .u32 f12, .int .u32 f13, .int .u32 f14, .int .u8 f15, .int .u32 f16, .int .u32 f17, .int .u32 f18]) (first | (with_reducible assumption) | (simp [go_sem, *]; done))
    (first | (go_at_call 19; refine (pu_any _ _ _ _ _ ?_ ?_ ?_).mono ?_; omega; omega; (simp [go_sem, *]); rintro e w1 ⟨rfl, rfl⟩))
  go_wp2
  go_region_held3 (fun w' => blkD w' gj = #[.pointer (some ⟨gh, 0, none⟩), .int .u32 f1, .int .u32 f2, .int .u32 f3, .int .u32 f4, .int .u32 f5, .int .u32 f6, .int .u32 0, .int .u32 0, .int .u32 f9, .pointer (some ⟨gu, 0, none⟩), .int .u32 f11, .int .u32 f12, .int .u32 f13, .int .u32 f14, .int .u8 f15, .int .u32 f16, .int .u32 f17, .int .u32 f18]) (first | (with_reducible assumption) | (simp [go_sem, *]; done))
    (first | (go_at_call 19; refine (pu_any _ _ _ _ _ ?_ ?_ ?_).mono ?_; omega; omega; (simp [go_sem, *]); rintro e w1 ⟨rfl, rfl⟩))
  go_wp2
  go_region_held3 (fun w' => blkD w' gj = #[.pointer (some ⟨gh, 0, none⟩), .int .u32 f1, .int .u32 f2, .int .u32 f3, .int .u32 f4, .int .u32 f5, .int .u32 f6, .int .u32 0, .int .u32 0, .int .u32 f9, .pointer (some ⟨gu, 0, none⟩), .int .u32 f11, .int .u32 f12, .int .u32 f13, .int .u32 f14, .int .u8 f15, .int .u32 f16, .int .u32 f17, .int .u32 f18]) (first | (with_reducible assumption) | (simp [go_sem, *]; done))
    (first | (go_at_call 19; refine (pu_any _ _ _ _ _ ?_ ?_ ?_).mono ?_; omega; omega; (simp [go_sem, *]); rintro e w1 ⟨rfl, rfl⟩))
  go_wp2
  go_region_held3 (fun w' => blkD w' gj = #[.pointer (some ⟨gh, 0, none⟩), .int .u32 f1, .int .u32 f2, .int .u32 f3, .int .u32 f4, .int .u32 f5, .int .u32 f6, .int .u32 0, .int .u32 0, .int .u32 f9, .pointer (some ⟨gu, 0, none⟩), .int .u32 f11, .int .u32 f12, .int .u32 f13, .int .u32 f14, .int .u8 f15, .int .u32 f16, .int .u32 f17, .int .u32 f18]) (first | (with_reducible assumption) | (simp [go_sem, *]; done))
    (first | (go_at_call 19; refine (pu_any _ _ _ _ _ ?_ ?_ ?_).mono ?_; omega; omega; (simp [go_sem, *]); rintro e w1 ⟨rfl, rfl⟩))
  go_wp2
  go_region_held3 (fun w' => blkD w' gj = #[.pointer (some ⟨gh, 0, none⟩), .int .u32 f1, .int .u32 f2, .int .u32 f3, .int .u32 f4, .int .u32 f5, .int .u32 f6, .int .u32 0, .int .u32 0, .int .u32 f9, .pointer (some ⟨gu, 0, none⟩), .int .u32 f11, .int .u32 f12, .int .u32 f13, .int .u32 f14, .int .u8 f15, .int .u32 f16, .int .u32 f17, .int .u32 f18]) (first | (with_reducible assumption) | (simp [go_sem, *]; done))
    (first | (go_at_call 19; refine (pu_any _ _ _ _ _ ?_ ?_ ?_).mono ?_; omega; omega; (simp [go_sem, *]); rintro e w1 ⟨rfl, rfl⟩))
  go_wp2
  go_region_held3 (fun w' => blkD w' gj = #[.pointer (some ⟨gh, 0, none⟩), .int .u32 f1, .int .u32 f2, .int .u32 f3, .int .u32 f4, .int .u32 f5, .int .u32 f6, .int .u32 0, .int .u32 0, .int .u32 f9, .pointer (some ⟨gu, 0, none⟩), .int .u32 f11, .int .u32 f12, .int .u32 f13, .int .u32 f14, .int .u8 f15, .int .u32 f16, .int .u32 f17, .int .u32 f18]) (first | (with_reducible assumption) | (simp [go_sem, *]; done))
    (first | (go_at_call 19; refine (pu_any _ _ _ _ _ ?_ ?_ ?_).mono ?_; omega; omega; (simp [go_sem, *]); rintro e w1 ⟨rfl, rfl⟩))
  go_wp2
  go_region_held3 (fun w' => blkD w' gj = #[.pointer (some ⟨gh, 0, none⟩), .int .u32 f1, .int .u32 f2, .int .u32 f3, .int .u32 f4, .int .u32 f5, .int .u32 f6, .int .u32 0, .int .u32 0, .int .u32 f9, .pointer (some ⟨gu, 0, none⟩), .int .u32 f11, .int .u32 f12, .int .u32 f13, .int .u32 f14, .int .u8 f15, .int .u32 f16, .int .u32 f17, .int .u32 f18]) (first | (with_reducible assumption) | (simp [go_sem, *]; done))
    (first | (go_at_call 19; refine (pu_any _ _ _ _ _ ?_ ?_ ?_).mono ?_; omega; omega; (simp [go_sem, *]); rintro e w1 ⟨rfl, rfl⟩))
  go_wp2
  refine bodyPost_ret (v := .tuple #[.slice (some ⟨w.heap.size, 0, none⟩) 1024 1024, .nilIface]) (by simp [results, Try.results10, go_sem]) rfl ⟨rfl, ?_, ?_⟩
  · simp [go_sem, jbytes]
  · repeat (first | (with_reducible exact Below.refl _ _) | (with_reducible refine below_drewN ?_ _) | (with_reducible refine Below.drew ?_) | (with_reducible refine Below.alloc ?_ ?_ _))
    all_goals (simp <;> omega)
end Go.Proofs.Ytpgbafllipigfaa
