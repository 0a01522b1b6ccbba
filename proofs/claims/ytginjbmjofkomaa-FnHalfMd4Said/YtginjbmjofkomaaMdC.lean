/- Walk of spec.HalfMd4. -/
import Derived.Test.YtginjbmjofkomaaMdB
import Derived.Test.YtginjbmjofkomaaNew
import Derived.Deep.RegionHeld3
namespace Go.Proofs.Ytginjbmjofkomaa
open Go.RowKit

/-- the words in their own places, whichever is the next to be changed -/
def unr : Nat → Int × Int × Int × Int → Int × Int × Int × Int
  | 0, q => q
  | 1, q => (q.2.1, q.2.2.1, q.2.2.2, q.1)
  | 2, q => (q.2.2.1, q.2.2.2, q.1, q.2.1)
  | 3, q => (q.2.2.2, q.1, q.2.1, q.2.2.1)
  | n + 4, q => unr n q
def mdS (b0 b1 b2 b3 i0 i1 i2 i3 i4 i5 i6 i7 : Int) (m : Nat) : Int × Int × Int × Int := ((sched i0 i1 i2 i3 i4 i5 i6 i7).take m).foldl stp (b0, b1, b2, b3)
def ordA : Array Value := #[.int .i64 0, .int .i64 1, .int .i64 2, .int .i64 3, .int .i64 4, .int .i64 5, .int .i64 6, .int .i64 7, .int .i64 1, .int .i64 3, .int .i64 5, .int .i64 7, .int .i64 0, .int .i64 2, .int .i64 4, .int .i64 6, .int .i64 3, .int .i64 7, .int .i64 2, .int .i64 6, .int .i64 1, .int .i64 5, .int .i64 0, .int .i64 4]
def turnA : Array Value := #[.int .i64 3, .int .i64 7, .int .i64 11, .int .i64 19, .int .i64 3, .int .i64 5, .int .i64 9, .int .i64 13, .int .i64 3, .int .i64 9, .int .i64 11, .int .i64 15]
def addA : Array Value := #[.int .u32 0, .int .u32 1518500249, .int .u32 1859775393]
/-- what memory holds at a round's head -/
structure MdW (w wr : World) (b0 b1 b2 b3 i0 i1 i2 i3 i4 i5 i6 i7 : Int) (q : Int × Int × Int × Int) : Prop where
  below : Below w.heap.size w wr
  size : wr.heap.size = w.heap.size + 6
  box : wr.heap[w.heap.size]? = some (.cells #[.int .u32 b0, .int .u32 b1, .int .u32 b2, .int .u32 b3] 27 (0, 0))
  inp : wr.heap[w.heap.size + 1]? = some (.cells #[.int .u32 i0, .int .u32 i1, .int .u32 i2, .int .u32 i3, .int .u32 i4, .int .u32 i5, .int .u32 i6, .int .u32 i7] 30 (0, 0))
  x : wr.heap[w.heap.size + 1 + 1]? = some (.cells #[.int .u32 q.1, .int .u32 q.2.1, .int .u32 q.2.2.1, .int .u32 q.2.2.2] 27 (0, 0))
  ord : wr.heap[w.heap.size + 1 + 1 + 1]? = some (.cells ordA 38 (0, 0))
  turn : wr.heap[w.heap.size + 1 + 1 + 1 + 1]? = some (.cells turnA 40 (0, 0))
  add : wr.heap[w.heap.size + 1 + 1 + 1 + 1 + 1]? = some (.cells addA 41 (0, 0))


theorem alloc6 (w : World) (o0 o1 o2 o3 o4 o5 : Obj) : ∀ W, W = (((((w.alloc o0).alloc o1).alloc o2).alloc o3).alloc o4).alloc o5 →
    W.heap[w.heap.size]? = some o0 ∧ W.heap[w.heap.size + 1]? = some o1 ∧ W.heap[w.heap.size + 1 + 1]? = some o2 ∧ W.heap[w.heap.size + 1 + 1 + 1]? = some o3 ∧ W.heap[w.heap.size + 1 + 1 + 1 + 1]? = some o4 ∧ W.heap[w.heap.size + 1 + 1 + 1 + 1 + 1]? = some o5 ∧ Below w.heap.size w W ∧ W.heap.size = w.heap.size + 6 := by
  rintro W rfl
  refine ⟨?_, ?_, ?_, ?_, ?_, ?_, ?_, ?_⟩
  · rw [Below.heap_alloc _ _ _ (by simp <;> omega), Below.heap_alloc _ _ _ (by simp <;> omega), Below.heap_alloc _ _ _ (by simp <;> omega), Below.heap_alloc _ _ _ (by simp <;> omega), Below.heap_alloc _ _ _ (by simp <;> omega)]; exact heap_alloc_new _ _
  · rw [Below.heap_alloc _ _ _ (by simp <;> omega), Below.heap_alloc _ _ _ (by simp <;> omega), Below.heap_alloc _ _ _ (by simp <;> omega), Below.heap_alloc _ _ _ (by simp <;> omega)]
    have := heap_alloc_new (w.alloc o0) o1; simpa using this
  · rw [Below.heap_alloc _ _ _ (by simp <;> omega), Below.heap_alloc _ _ _ (by simp <;> omega), Below.heap_alloc _ _ _ (by simp <;> omega)]
    have := heap_alloc_new ((w.alloc o0).alloc o1) o2; simpa using this
  · rw [Below.heap_alloc _ _ _ (by simp <;> omega), Below.heap_alloc _ _ _ (by simp <;> omega)]
    have := heap_alloc_new (((w.alloc o0).alloc o1).alloc o2) o3; simpa using this
  · rw [Below.heap_alloc _ _ _ (by simp <;> omega)]
    have := heap_alloc_new ((((w.alloc o0).alloc o1).alloc o2).alloc o3) o4; simpa using this
  · have := heap_alloc_new (((((w.alloc o0).alloc o1).alloc o2).alloc o3).alloc o4) o5; simpa using this
  · refine Below.alloc (Below.alloc (Below.alloc (Below.alloc (Below.alloc (Below.alloc (Below.refl _ _) ?_ _) ?_ _) ?_ _) ?_ _) ?_ _) ?_ _
    all_goals (first | omega | (simp <;> omega))
  · simp

theorem MdW.store {w wr : World} {b0 b1 b2 b3 i0 i1 i2 i3 i4 i5 i6 i7 : Int} {q : Int × Int × Int × Int} (h : MdW w wr b0 b1 b2 b3 i0 i1 i2 i3 i4 i5 i6 i7 q) (n j : Nat) (v : Int) (q' : Int × Int × Int × Int)
    (hq : (#[.int .u32 q.1, .int .u32 q.2.1, .int .u32 q.2.2.1, .int .u32 q.2.2.2] : Array Value).setIfInBounds j (.int .u32 v) = #[.int .u32 q'.1, .int .u32 q'.2.1, .int .u32 q'.2.2.1, .int .u32 q'.2.2.2]) :
    MdW w ((wr.drewN n).setCell ⟨w.heap.size + 1 + 1, j, none⟩ (.int .u32 v)) b0 b1 b2 b3 i0 i1 i2 i3 i4 i5 i6 i7 q' := by
  constructor
  · exact Below.setCell (below_drewN h.below _) (by simp <;> omega) _
  · simpa using h.size
  · rw [heap_setCell_other _ _ _ _ (by simp <;> omega)]; exact h.box
  · rw [heap_setCell_other _ _ _ _ (by simp)]; exact h.inp
  · rw [heap_setCell_same (wr.drewN n) _ _ _ 27 _ h.x, hq]
  · rw [heap_setCell_other _ _ _ _ (by simp)]; exact h.ord
  · rw [heap_setCell_other _ _ _ _ (by simp <;> omega)]; exact h.turn
  · rw [heap_setCell_other _ _ _ _ (by simp <;> omega)]; exact h.add
theorem mdS_succ (b0 b1 b2 b3 i0 i1 i2 i3 i4 i5 i6 i7 : Int) (m : Nat) (t : Nat × Int × Int) (h : (sched i0 i1 i2 i3 i4 i5 i6 i7)[m]? = some t) : mdS b0 b1 b2 b3 i0 i1 i2 i3 i4 i5 i6 i7 (m + 1) = stp (mdS b0 b1 b2 b3 i0 i1 i2 i3 i4 i5 i6 i7 m) t := by
  unfold mdS
  rw [List.take_add_one, h]
  simp
theorem R_same0 (a b c d x s : Int) : rotW ((a + fW 0 b c d + x) % 4294967296) s = R 0 a b c d (x % 4294967296) s := by
  show rotW _ s = rotW ((a + fW 0 b c d + x % 4294967296) % 4294967296) s
  rw [show (a + fW 0 b c d + x % 4294967296) % 4294967296 = (a + fW 0 b c d + x) % 4294967296 by omega]
theorem R_same1 (a b c d x k s : Int) : rotW ((a + (bits BinOp.and IntKind.u32 b c + bits BinOp.and IntKind.u32 (bits BinOp.xor IntKind.u32 b c) d) + x + k) % 4294967296) s = R 1 a b c d ((x + k) % 4294967296) s := by
  show rotW _ s = rotW ((a + (bits BinOp.and IntKind.u32 b c + bits BinOp.and IntKind.u32 (bits BinOp.xor IntKind.u32 b c) d) % 4294967296 + (x + k) % 4294967296) % 4294967296) s
  generalize bits BinOp.and IntKind.u32 b c = X
  generalize bits BinOp.and IntKind.u32 (bits BinOp.xor IntKind.u32 b c) d = Y
  rw [show (a + (X + Y) % 4294967296 + (x + k) % 4294967296) % 4294967296 = (a + (X + Y) + x + k) % 4294967296 by omega]
theorem R_same2 (a b c d x k s : Int) : rotW ((a + fW 2 b c d + x + k) % 4294967296) s = R 2 a b c d ((x + k) % 4294967296) s := by
  show rotW _ s = rotW ((a + fW 2 b c d + (x + k) % 4294967296) % 4294967296) s
  rw [show (a + fW 2 b c d + (x + k) % 4294967296) % 4294967296 = (a + fW 2 b c d + x + k) % 4294967296 by omega]

end Go.Proofs.Ytginjbmjofkomaa
