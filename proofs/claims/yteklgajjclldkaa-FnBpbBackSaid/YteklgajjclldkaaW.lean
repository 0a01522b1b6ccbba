/- Bytes of a number; the writers of two and four bytes. -/
import Derived.Test.YteklgajjclldkaaInst
import Derived.Test.YteklgajjclldkaaInv
import Derived.Laws.BytesArg
namespace Go.Proofs.Yteklgajjclldkaa
open Go.RowKit

/-- the bytes of a number, the lowest first -/
def by0 (x : Int) : Int := x % 256
def by1 (x : Int) : Int := x / 256 % 256
def by2 (x : Int) : Int := x / 65536 % 256
def by3 (x : Int) : Int := x / 16777216 % 256
theorem by0_eq (x : Int) : x % 256 = by0 x := rfl
theorem by1_eq (x : Int) : x / 256 % 256 = by1 x := rfl

theorem lt_all {g n : Nat} (h : g < n) : g < n + 1 ∧ g < n + 1 + 1 ∧ g < n + 1 + 1 + 1 ∧ g < n + 1 + 1 + 1 + 1 ∧ g < n + 1 + 1 + 1 + 1 + 1 ∧ g < n + 1 + 1 + 1 + 1 + 1 + 1 ∧ g < n + 1 + 1 + 1 + 1 + 1 + 1 + 1 ∧ g < n + 1 + 1 + 1 + 1 + 1 + 1 + 1 + 1 ∧ g < n + 1 + 1 + 1 + 1 + 1 + 1 + 1 + 1 + 1 ∧ g < n + 1 + 1 + 1 + 1 + 1 + 1 + 1 + 1 + 1 + 1 ∧ g < n + 1 + 1 + 1 + 1 + 1 + 1 + 1 + 1 + 1 + 1 + 1 ∧ g < n + 1 + 1 + 1 + 1 + 1 + 1 + 1 + 1 + 1 + 1 + 1 + 1 ∧ g < n + 1 + 1 + 1 + 1 + 1 + 1 + 1 + 1 + 1 + 1 + 1 + 1 + 1 ∧ g < n + 1 + 1 + 1 + 1 + 1 + 1 + 1 + 1 + 1 + 1 + 1 + 1 + 1 + 1 ∧ g < n + 1 + 1 + 1 + 1 + 1 + 1 + 1 + 1 + 1 + 1 + 1 + 1 + 1 + 1 + 1 ∧ g < n + 1 + 1 + 1 + 1 + 1 + 1 + 1 + 1 + 1 + 1 + 1 + 1 + 1 + 1 + 1 + 1 := by omega
theorem setCell_past (w : World) (o : Obj) (g i : Nat) (v : Value) (h : g < w.heap.size) : (w.alloc o).setCell ⟨g, i, none⟩ v = (w.setCell ⟨g, i, none⟩ v).alloc o := by
  unfold World.setCell World.alloc
  congr 1
  apply Array.ext_getElem?
  intro k
  rw [Array.getElem?_modify, Array.getElem?_push, Array.getElem?_push, Array.getElem?_modify]
  simp only [Array.size_modify]
  by_cases hk : g = k
  · subst hk
    simp [Nat.ne_of_lt h]
  · simp [hk]
attribute [go_sem] setCell_past

theorem blkD_lt {w : World} {g i : Nat} (h : i < (blkD w g).size) : g < w.heap.size := by
  obtain ⟨n, hn⟩ : ∃ n, (blkD w g).size = n + 1 := ⟨(blkD w g).size - 1, by omega⟩
  obtain ⟨t, ht⟩ := blkD_heap hn
  exact (Array.getElem?_eq_some_iff.1 ht).1
theorem blkD_cell {w : World} {g : Nat} (i : Nat) (h : i < (blkD w g).size) : ∃ u, w.cell? ⟨g, i, none⟩ = some u :=
  ⟨_, (cell_blkD i h).trans (Array.getElem?_eq_getElem h)⟩

theorem le16_any (g o c : Nat) (x : Int) (w : World) (h0 : 0 ≤ x) (h1 : x ≤ 65535) (hb : o + 1 < (blkD w g).size) :
    Calls Try.prog 21 #[.agg #[], .slice (some ⟨g, o, none⟩) 2 c, .int .u16 x] w fun e w' => e = .returned (.tuple #[]) ∧
      w' = ((w.setCell ⟨g, o, none⟩ (.int .u8 (by0 x))).setCell ⟨g, o + 1, none⟩ (.int .u8 (by1 x))).alloc (.cells #[] 64) := by
  have hg := blkD_lt hb
  obtain ⟨u, c0⟩ := blkD_cell o (Nat.lt_of_succ_lt hb)
  obtain ⟨v, c1⟩ := blkD_cell (o + 1) hb
  have f0 := frozen_blkD (w := w) (g := g) o (by omega)
  have f1 := frozen_blkD (w := w) (g := g) (o + 1) (by omega)
  clear hb
  go_enter Try.func21, Try.ntmps21
  go_wp2
  go_end0
  refine ⟨rfl, ?_⟩
  rw [show x / 256 = by1 x from by unfold by1; omega]
  rfl

theorem le32_any (g o c : Nat) (x : Int) (w : World) (h0 : 0 ≤ x) (h1 : x ≤ 4294967295) (hb : o + 3 < (blkD w g).size) :
    Calls Try.prog 22 #[.agg #[], .slice (some ⟨g, o, none⟩) 4 c, .int .u32 x] w fun e w' => e = .returned (.tuple #[]) ∧
      w' = ((((w.setCell ⟨g, o, none⟩ (.int .u8 (by0 x))).setCell ⟨g, o + 1, none⟩ (.int .u8 (by1 x))).setCell ⟨g, o + 2, none⟩ (.int .u8 (by2 x))).setCell ⟨g, o + 3, none⟩ (.int .u8 (by3 x))).alloc (.cells #[] 64) := by
  have hg := blkD_lt hb
  obtain ⟨u, c0⟩ := blkD_cell (w := w) (g := g) o (by omega)
  obtain ⟨v, c1⟩ := blkD_cell (w := w) (g := g) (o + 1) (by omega)
  obtain ⟨u2, c2⟩ := blkD_cell (w := w) (g := g) (o + 2) (by omega)
  obtain ⟨u3, c3⟩ := blkD_cell (w := w) (g := g) (o + 3) (by omega)
  have f0 := frozen_blkD (w := w) (g := g) o (by omega)
  have f1 := frozen_blkD (w := w) (g := g) (o + 1) (by omega)
  have f2 := frozen_blkD (w := w) (g := g) (o + 2) (by omega)
  have f3 := frozen_blkD (w := w) (g := g) (o + 3) (by omega)
  clear hb
  go_enter Try.func22, Try.ntmps22
  go_wp2
  go_end0
  refine ⟨rfl, ?_⟩
  rw [show x / 16777216 = by3 x from by unfold by3; omega]
  rfl

/-- what is known of what an operation of a drawn region has left: its value; or that it is a slice over a block of these cells -/
def Fact : Sum Value (Array Value) → Value → World → Prop
  | .inl u, v, _ => v = u
  | .inr cs, v, w => ∃ g, v = .slice (some ⟨g, 0, none⟩) cs.size cs.size ∧ blkD w g = cs ∧ 0 < cs.size
theorem Fact.keep {f : Sum Value (Array Value)} {v : Value} {w w' : World} (hE : Below w.heap.size w w') (h : Fact f v w) : Fact f v w' := by
  cases f with
  | inl u => exact h
  | inr cs =>
    obtain ⟨g, e, hc, hz⟩ := h
    exact ⟨g, e, (bblk hE g (blkD_lt (i := 0) (by rw [hc]; exact hz))).trans hc, hz⟩
/-- a cell that holds a byte -/
def isU8 : Value → Bool
  | .int .u8 _ => true
  | _ => false
def numIn : Value → Int
  | .int _ x => x
  | _ => 0
theorem isU8_eq {v : Value} (h : isU8 v = true) : v = .int .u8 (numIn v) := by
  cases v <;> simp only [isU8, Bool.false_eq_true] at h
  rename_i k x
  cases k <;> simp at h
  rfl
@[go_sem] theorem run_str_blk (w : World) (g n c : Nat) (_h : 0 < (blkD w g).size) (hn : n ≤ (blkD w g).size) (hu : ((blkD w g).toList.take n).all isU8 = true) :
    (convert 36 9 (.slice (some ⟨g, 0, none⟩) n c)).run Try.prog w = .ok (.string (strOfNums (((blkD w g).toList.take n).map numIn))) w := by
  refine run_convert_bytes_arg w 36 5 Try.underlying36 Try.underlying5 g 0 n c _ (by simp; omega) (fun i hi => ?_) 9 Try.underlying9
  have hl : i < (blkD w g).size := by omega
  rw [Nat.zero_add, cell_blkD i hl, Array.getElem?_eq_getElem hl]
  have hm : (blkD w g)[i] ∈ (blkD w g).toList.take n := List.mem_iff_getElem.2 ⟨i, by simp; omega, by simp⟩
  have he := isU8_eq (List.all_eq_true.1 hu _ hm)
  rw [he]
  congr 2
  simp [List.getD, hi, hl]
@[go_sem high] theorem run_add_nums (w : World) (a b : List Int) (h : a.length + b.length ≤ 9223372036854775807) :
    (Op.stringOp .add (strOfNums a) (strOfNums b)).run Try.prog w = .ok (.string (strOfNums (a ++ b))) w := by
  rw [run_string_add_sum w _ _ (by rw [strOfNums_size, strOfNums_size]; exact h)]
  simp [strOfNums, ByteArray.mk_append_mk]
theorem nums_append (a b : List Int) : strOfNums a ++ strOfNums b = strOfNums (a ++ b) := by simp [strOfNums, ByteArray.mk_append_mk]
attribute [go_sem] isU8 numIn strOfNums_size

end Go.Proofs.Yteklgajjclldkaa
