/- A row read whatever its marks; the walk of the number of 16 bytes. -/
import Derived.Test.YtpgbafllipigfaaJD
import Derived.Laws.ResultCell
namespace Go.Proofs.Ytpgbafllipigfaa
open Go.RowKit
attribute [local go_sem ↓] Go.wp_at_zero Go.wp_at_succ
set_option linter.unusedVariables false

/-- the cells of a block, whatever part of it is frozen -/
def blkR (w : World) (g : Nat) : Array Value :=
  match w.heap[g]? with
  | some (.cells c _ _) => c
  | _ => #[]
@[go_sem] theorem blkR_past (w : World) (o : Obj) (g : Nat) (hg : g < w.heap.size) : blkR (w.alloc o) g = blkR w g := by
  unfold blkR; rw [Below.heap_alloc w o g hg]
@[go_sem] theorem blkR_drew (w : World) (g : Nat) : blkR w.drew g = blkR w g := rfl
@[go_sem] theorem blkR_setCell (w : World) (g g' i : Nat) (v : Value) (h : g' ≠ g) : blkR (w.setCell ⟨g', i, none⟩ v) g = blkR w g := by
  unfold blkR; rw [heap_setCell_other _ _ _ _ (Ne.symm h)]
@[go_sem] theorem blkR_setRow (w : World) (g g' : Nat) (cs : Array Value) (h : g' ≠ g) : blkR (w.setRow g' cs) g = blkR w g := by
  unfold blkR; rw [heap_setRow_other _ _ _ _ h]
theorem bblkR {W w1 : World} (hb : Below W.heap.size W w1) : ∀ g, g < W.heap.size → blkR w1 g = blkR W g :=
  fun g h => by unfold blkR; rw [hb.block g h]
theorem cell_blkR {w : World} {g : Nat} (i : Nat) (h : i < (blkR w g).size) : w.cell? ⟨g, i, none⟩ = (blkR w g)[i]? := by
  unfold blkR at h ⊢
  split at h
  · rename_i c t fr hh
    simp [World.cell?, hh]
  · simp at h
@[go_sem] theorem CellsC_past (w : World) (o : Obj) (g : Nat) (C : Array Value) (hg : g < w.heap.size) : CellsC (w.alloc o) g C = CellsC w g C := by
  unfold CellsC
  have : ∀ k, (w.alloc o).cell? ⟨g, k, none⟩ = w.cell? ⟨g, k, none⟩ := fun k => World.cell?_alloc_lt w o ⟨g, k, none⟩ hg
  simp only [this]
@[go_sem] theorem CellsC_drew (w : World) (g : Nat) (C : Array Value) : CellsC w.drew g C = CellsC w g C := rfl
@[go_sem] theorem CellsC_setCell (w : World) (g g' i : Nat) (v : Value) (C : Array Value) (h : g' ≠ g) : CellsC (w.setCell ⟨g', i, none⟩ v) g C = CellsC w g C := by
  unfold CellsC
  have : ∀ k, (w.setCell ⟨g', i, none⟩ v).cell? ⟨g, k, none⟩ = w.cell? ⟨g, k, none⟩ := fun k => World.cell?_setCell_other w _ _ v (fun e => h (by cases e; rfl))
  simp only [this]
@[go_sem] theorem CellsC_setRow (w : World) (g g' : Nat) (cs : Array Value) (C : Array Value) (h : g' ≠ g) : CellsC (w.setRow g' cs) g C = CellsC w g C := by
  unfold CellsC
  simp only [cell?_setRow_other _ _ _ _ _ h]
/-- n cells of a row from place o on -/
def sub (R : Array Value) (o n : Nat) : Array Value := ((R.toList.drop o).take n).toArray
theorem sp_all (C cs : Array Value) (h : C.size = cs.size) : sp C 0 cs = cs := by
  unfold sp
  rw [Nat.zero_add, List.take_zero, List.nil_append, List.drop_eq_nil_of_le (by simp; omega), List.append_nil]
@[go_sem] theorem run_copy_sub (w : World) (g o n c g2 o2 n2 c2 : Nat) (ty : TypeId) (h : o + n2 ≤ (blkD w g).size) (h0 : 0 < (blkD w g).size) (h2 : o2 + n2 ≤ (blkR w g2).size) (hle : n2 ≤ n) (h1 : ones (sub (blkR w g2) o2 n2) = true) :
    (Builtin.copy_ #[28, 28] ty #[.slice (some ⟨g, o, none⟩) n c, .slice (some ⟨g2, o2, none⟩) n2 c2]).run Try.prog w = .ok (goInt n2) (w.setRow g (sp (blkD w g) o (sub (blkR w g2) o2 n2))) := by
  obtain ⟨m, hm⟩ : ∃ m, (blkD w g).size = m + 1 := ⟨(blkD w g).size - 1, by omega⟩
  obtain ⟨t, ht⟩ := blkD_heap hm
  have hl : (sub (blkR w g2) o2 n2).toList.length = n2 := by simp [sub]; omega
  have := run_copy_row (P := Try.prog) w 28 28 ty 5 g o n c ⟨g2, o2, none⟩ n2 c2 (blkD w g) t (sub (blkR w g2) o2 n2).toList Try.underlying28 s_u8 ht (by rw [hl]; exact (Nat.min_eq_left hle).symm)
    (fun j v hj => by
      have hj2 : j < n2 := by
        rcases Nat.lt_or_ge j n2 with hh | hh
        · exact hh
        · rw [List.getElem?_eq_none (by rw [hl]; exact hh)] at hj; cases hj
      have hp : (⟨g2, o2, none⟩ : Addr).add j = ⟨g2, o2 + j, none⟩ := by
        unfold Addr.add
        split
        · rename_i e; rw [e]; rfl
        · rfl
      rw [hp, cell_blkR (o2 + j) (by omega), ← hj]
      simp [sub, List.getElem?_take_of_lt hj2])
    (by rw [hl]; exact h) (fun v hv => by
      simp only [ones, Array.all_eq_true_iff_forall_mem] at h1
      exact h1 v (by simpa using hv))
  rw [this, hl]
  unfold sp
  rw [show (sub (blkR w g2) o2 n2).size = n2 from by simpa using hl]
@[go_sem] theorem run_st_uu (w : World) (g : Nat) (cells : Array Value) (h : (blkD w g).size = 16) (hs : cells.size = 16) (h1 : ones cells = true) :
    (st45 ⟨g, 0, none⟩ (.agg cells)).run Try.prog w = .ok () (w.setRow g cells) := run_st45 w g cells h hs h1
@[go_sem] theorem mk16 (w : World) : (Instr.makeSlice 28 (.int .i64 16) (.int .i64 16)).run Try.prog w = .ok (.slice (some ⟨w.heap.size, 0, none⟩) 16 16) (w.alloc (.cells #[.int .u8 0, .int .u8 0, .int .u8 0, .int .u8 0, .int .u8 0, .int .u8 0, .int .u8 0, .int .u8 0, .int .u8 0, .int .u8 0, .int .u8 0, .int .u8 0, .int .u8 0, .int .u8 0, .int .u8 0, .int .u8 0] 5)) := by kernel_rfl

theorem res_uu {fn : Func} {p u : Tmp} (h : fn.results = #[.cell p 45, .tmp u]) (tmps : Array Value) (w : World) (g : Nat) (cs : Array Value) (hp : tmps.getD p undef = .pointer (some ⟨g, 0, none⟩)) (hb : blkD w g = cs) (hs : cs.size = 16) {v : Value} (hv : tmps.getD u undef = v) :
    (results fn tmps).run Try.prog w = .ok (.tuple #[.agg cs, v]) w := by
  subst hb
  rw [results_cell_tmp h, hp, hv]
  simp [asAddr, go_sem, hs, Result.andThen]
set_option maxHeartbeats 1000000 in
theorem ufb_any (g c : Nat) (uu : Array Value) (w : World) (hu : blkD w g = uu) (huz : uu.size = 16) (huo : ones uu = true) :
    Calls Try.prog 24 #[.slice (some ⟨g, 0, none⟩) 16 c] w fun e w' => e = .returned (.tuple #[.agg uu, .nilIface]) ∧ w' = w.alloc (.cells uu 45) := by
  have hg : g < w.heap.size := blkD_lt (i := 0) (by rw [hu, huz]; omega)
  have hsp : ∀ C : Array Value, C.size = 16 → sp C 0 uu = uu := fun C hC => sp_all C uu (by rw [hC, huz])
  have hsz := sp_all #[.int .u8 0, .int .u8 0, .int .u8 0, .int .u8 0, .int .u8 0, .int .u8 0, .int .u8 0, .int .u8 0, .int .u8 0, .int .u8 0, .int .u8 0, .int .u8 0, .int .u8 0, .int .u8 0, .int .u8 0, .int .u8 0] uu (by rw [huz]; rfl)
  go_enter Try.func24, Try.ntmps24
  go_wp2
  refine bodyPost_ret (v := .tuple #[.agg uu, .nilIface]) (res_uu Try.results24 _ _ w.heap.size uu (by rfl) (by simp [go_sem]) huz (by rfl)) rfl ⟨rfl, rfl⟩
end Go.Proofs.Ytpgbafllipigfaa
