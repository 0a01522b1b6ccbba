/- Blocks of memory read and written whole: a struct or an array at a block's head is loaded and stored by one rule, not cell by cell. -/
import Derived.Test.YteklgajjclldkaaAid
namespace Go.Proofs.Yteklgajjclldkaa
open Go.RowKit

/-- the cells of a block, no part of it frozen; none otherwise -/
def blkD (w : World) (g : Nat) : Array Value :=
  match w.heap[g]? with
  | some (.cells c _ (0, 0)) => c
  | _ => #[]

theorem blkD_heap {w : World} {g : Nat} {n : Nat} (h : (blkD w g).size = n + 1) : ∃ t, w.heap[g]? = some (.cells (blkD w g) t (0, 0)) := by
  unfold blkD at h ⊢
  split at h
  · rename_i c t hh
    exact ⟨t, by rw [hh]⟩
  · simp at h

theorem blkD_of {w : World} {g : Nat} {c : Array Value} {t : TypeId} (h : w.heap[g]? = some (.cells c t (0, 0))) : blkD w g = c := by
  simp only [blkD, h]

@[go_sem] theorem blkD_alloc_at (w : World) (c : Array Value) (t : TypeId) (g : Nat) (hg : g = w.heap.size) : blkD (w.alloc (.cells c t)) g = c := by
  subst hg
  exact blkD_of (heap_alloc_new _ _)
@[go_sem] theorem blkD_alloc_past (w : World) (o : Obj) (g : Nat) (hg : g < w.heap.size) : blkD (w.alloc o) g = blkD w g := by
  unfold blkD; rw [Below.heap_alloc w o g hg]
@[go_sem] theorem blkD_drew (w : World) (g : Nat) : blkD w.drew g = blkD w g := rfl
@[go_sem] theorem blkD_drewN (w : World) (n g : Nat) : blkD (w.drewN n) g = blkD w g := rfl

theorem blkD_setCell_same (w : World) (g i : Nat) (v : Value) : blkD (w.setCell ⟨g, i, none⟩ v) g = (blkD w g).setIfInBounds i v := by
  unfold blkD World.setCell
  rw [Array.getElem?_modify]
  cases h : w.heap[g]? with
  | none => simp
  | some o => cases o <;> simp_all
              rename_i c e fr
              obtain ⟨x, y⟩ := fr
              cases x <;> cases y <;> simp
@[go_sem] theorem blkD_setCell_same' (w : World) (g g' i : Nat) (v : Value) (h : g' = g) : blkD (w.setCell ⟨g', i, none⟩ v) g = (blkD w g).setIfInBounds i v := by
  subst h; exact blkD_setCell_same w _ i v
@[go_sem] theorem blkD_setCell_other (w : World) (g g' i : Nat) (v : Value) (h : g' ≠ g) : blkD (w.setCell ⟨g', i, none⟩ v) g = blkD w g := by
  unfold blkD; rw [heap_setCell_other _ _ _ _ (Ne.symm h)]

theorem heap_setRow_same {w : World} {g : Nat} {c cs : Array Value} {t : TypeId} {fr : Nat × Nat} (h : w.heap[g]? = some (.cells c t fr)) : (w.setRow g cs).heap[g]? = some (.cells cs t fr) := by
  unfold World.setRow
  simp [Array.getElem?_modify, h]
theorem heap_setRow_other (w : World) (g g' : Nat) (cs : Array Value) (h : g' ≠ g) : (w.setRow g' cs).heap[g]? = w.heap[g]? := by
  unfold World.setRow
  simp [Array.getElem?_modify, h]
@[go_sem] theorem blkD_setRow_same (w : World) (g : Nat) (cs : Array Value) (h : 0 < (blkD w g).size) : blkD (w.setRow g cs) g = cs := by
  obtain ⟨n, hn⟩ : ∃ n, (blkD w g).size = n + 1 := ⟨(blkD w g).size - 1, by omega⟩
  obtain ⟨t, ht⟩ := blkD_heap hn
  exact blkD_of (heap_setRow_same ht)
@[go_sem] theorem blkD_setRow_other (w : World) (g g' : Nat) (cs : Array Value) (h : g' ≠ g) : blkD (w.setRow g' cs) g = blkD w g := by
  unfold blkD; rw [heap_setRow_other _ _ _ _ h]
@[go_sem] theorem cell?_setRow_same (w : World) (g i : Nat) (cs : Array Value) (h : 0 < (blkD w g).size) : (w.setRow g cs).cell? ⟨g, i, none⟩ = cs[i]? := by
  obtain ⟨n, hn⟩ : ∃ n, (blkD w g).size = n + 1 := ⟨(blkD w g).size - 1, by omega⟩
  obtain ⟨t, ht⟩ := blkD_heap hn
  exact cell_of_row _ _ _ _ _ _ (heap_setRow_same ht)
@[go_sem] theorem cell?_setRow_other (w : World) (g g' i : Nat) (cs : Array Value) (h : g' ≠ g) : (w.setRow g' cs).cell? ⟨g, i, none⟩ = w.cell? ⟨g, i, none⟩ :=
  World.cell?_of_block (heap_setRow_other _ _ _ _ h)
@[go_sem] theorem frozen?_setRow (w : World) (g g' i : Nat) (cs : Array Value) : (w.setRow g' cs).frozen? ⟨g, i, none⟩ = w.frozen? ⟨g, i, none⟩ := by
  by_cases h : g' = g
  · subst h
    cases hh : w.heap[g']? with
    | none => simp [World.frozen?, World.setRow, Array.getElem?_modify, hh]
    | some o => cases o <;> simp [World.frozen?, World.setRow, Array.getElem?_modify, hh]
  · exact World.frozen?_of_block (heap_setRow_other _ _ _ _ h)
@[go_sem] theorem size_setRow' (w : World) (g : Nat) (cs : Array Value) : (w.setRow g cs).heap.size = w.heap.size := size_setRow w g cs
@[go_sem] theorem setRow_drew (w : World) (g : Nat) (cs : Array Value) : w.drew.setRow g cs = (w.setRow g cs).drew := rfl
@[go_sem] theorem setRow_alloc_at (w : World) (c cs : Array Value) (t : TypeId) (g : Nat) (hg : g = w.heap.size) : (w.alloc (.cells c t)).setRow g cs = w.alloc (.cells cs t) := by
  subst hg
  unfold World.setRow World.alloc
  congr 1
  apply Array.ext_getElem?
  intro i
  rw [Array.getElem?_modify]
  by_cases h : w.heap.size = i
  · subst h; simp
  · simp [h, Array.getElem?_push]
    split <;> simp_all

@[go_sem] theorem setRow_alloc_past (w : World) (o : Obj) (cs : Array Value) (g : Nat) (hg : g < w.heap.size) : (w.alloc o).setRow g cs = (w.setRow g cs).alloc o := by
  unfold World.setRow World.alloc
  congr 1
  apply Array.ext_getElem?
  intro i
  rw [Array.getElem?_modify, Array.getElem?_push, Array.getElem?_push, Array.getElem?_modify]
  simp only [Array.size_modify]
  by_cases h : g = i
  · subst h
    simp [Nat.ne_of_lt hg]
  · simp [h]

/-- the cell facts of a block that is known whole -/
theorem cell_blkD {w : World} {g : Nat} (i : Nat) (h : i < (blkD w g).size) : w.cell? ⟨g, i, none⟩ = (blkD w g)[i]? := by
  obtain ⟨n, hn⟩ : ∃ n, (blkD w g).size = n + 1 := ⟨(blkD w g).size - 1, by omega⟩
  obtain ⟨t, ht⟩ := blkD_heap hn
  exact cell_of_row _ _ _ _ _ _ ht
theorem frozen_blkD {w : World} {g : Nat} (i : Nat) (h : 0 < (blkD w g).size) : w.frozen? ⟨g, i, none⟩ = false := by
  obtain ⟨n, hn⟩ : ∃ n, (blkD w g).size = n + 1 := ⟨(blkD w g).size - 1, by omega⟩
  obtain ⟨t, ht⟩ := blkD_heap hn
  exact frozen_of_row _ _ _ _ _ ht

@[go_sem] theorem cell?_blk (w : World) (g i : Nat) (h : i < (blkD w g).size) : w.cell? ⟨g, i, none⟩ = (blkD w g)[i]? := cell_blkD i h
@[go_sem] theorem frozen?_blk (w : World) (g i : Nat) (h : 0 < (blkD w g).size) : w.frozen? ⟨g, i, none⟩ = false := frozen_blkD i h
theorem and_255 (x : Int) : bits BinOp.and IntKind.u32 x 255 = x % 256 := by
  show IntKind.u32.wrap ((BitVec.ofInt 32 x &&& BitVec.ofInt 32 255).toNat : Int) = _
  rw [BitVec.toNat_and, show (BitVec.ofInt 32 255).toNat = 2 ^ 8 - 1 from rfl, Nat.and_two_pow_sub_one_eq_mod, BitVec.toNat_ofInt, IntKind.wrap_u32]
  omega
theorem and_65535 (x : Int) : bits BinOp.and IntKind.u32 x 65535 = x % 65536 := by
  show IntKind.u32.wrap ((BitVec.ofInt 32 x &&& BitVec.ofInt 32 65535).toNat : Int) = _
  rw [BitVec.toNat_and, show (BitVec.ofInt 32 65535).toNat = 2 ^ 16 - 1 from rfl, Nat.and_two_pow_sub_one_eq_mod, BitVec.toNat_ofInt, IntKind.wrap_u32]
  omega
theorem and_1 (x : Int) : bits BinOp.and IntKind.u32 x 1 = x % 2 := by
  show IntKind.u32.wrap ((BitVec.ofInt 32 x &&& BitVec.ofInt 32 1).toNat : Int) = _
  rw [BitVec.toNat_and, show (BitVec.ofInt 32 1).toNat = 2 ^ 1 - 1 from rfl, Nat.and_two_pow_sub_one_eq_mod, BitVec.toNat_ofInt, IntKind.wrap_u32]
  omega
/-- the low bits of a word, as an int -/
def m8 (x : Int) : Int := x % 256
def m16 (x : Int) : Int := x % 65536
def m1 (x : Int) : Int := x % 2
theorem m8_le (x : Int) : 0 ≤ m8 x ∧ m8 x ≤ 255 := by unfold m8; omega
theorem m16_le (x : Int) : 0 ≤ m16 x ∧ m16 x ≤ 65535 := by unfold m16; omega
theorem m1_le (x : Int) : 0 ≤ m1 x ∧ m1 x ≤ 1 := by unfold m1; omega
@[go_sem] theorem wrap_m8 (x : Int) : IntKind.i64.wrap (bits BinOp.and IntKind.u32 x 255) = m8 x := by
  rw [and_255, IntWalk.i64_in _ (by omega)]; rfl
@[go_sem] theorem wrap_m16 (x : Int) : IntKind.i64.wrap (bits BinOp.and IntKind.u32 x 65535) = m16 x := by
  rw [and_65535, IntWalk.i64_in _ (by omega)]; rfl
@[go_sem] theorem wrap_m1 (x : Int) : IntKind.i64.wrap (bits BinOp.and IntKind.u32 x 1) = m1 x := by
  rw [and_1, IntWalk.i64_in _ (by omega)]; rfl
theorem run_load_blk {P : Program} (w : World) (g n : Nat) (ty : TypeId) (d : TypeDesc) (hu : P.underlying ty = some d) (hd : (match d with | .struct _ | .array _ _ => true | _ => false) = true)
    (hi : (P.info? ty).map (·.size) = some (n + 1)) (h : (blkD w g).size = n + 1) : (loadVar ty ⟨g, 0, none⟩).run P w = .ok (.agg (blkD w g)) w := by
  obtain ⟨t, ht⟩ := blkD_heap h
  exact run_loadVar_row w g t ty _ _ d ht hu hd (by rw [hi, h])
theorem run_store_blk {P : Program} (w : World) (g n : Nat) (ty : TypeId) (cells : Array Value) (hi : (P.info? ty).map (·.size) = some (n + 1)) (h : (blkD w g).size = n + 1)
    (hs : cells.size = n + 1) (h1 : cells.all (·.oneCell') = true) : (storeVar ty ⟨g, 0, none⟩ (.agg cells)).run P w = .ok () (w.setRow g cells) := by
  obtain ⟨t, ht⟩ := blkD_heap h
  exact run_storeVar_row w g t ty _ _ ht (by rw [hi, hs]) (by rw [h, hs]) h1
theorem below_setRow {B : Nat} {a w : World} (h : Below B a w) {g : Nat} (hg : B ≤ g) (cs : Array Value) : Below B a (w.setRow g cs) :=
  ⟨h.os, h.tape, h.output, by rw [size_setRow]; exact h.size, fun k hk => by rw [heap_setRow_other _ _ _ _ (by omega)]; exact h.block k hk⟩
theorem bblk {W w1 : World} (hb : Below W.heap.size W w1) : ∀ g, g < W.heap.size → blkD w1 g = blkD W g :=
  fun g h => by unfold blkD; rw [hb.block g h]

end Go.Proofs.Yteklgajjclldkaa
