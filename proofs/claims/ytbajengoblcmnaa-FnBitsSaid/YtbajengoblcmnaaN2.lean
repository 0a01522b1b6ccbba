/- Walks of the bitmap's own short functions. -/
import Derived.Test.YtbajengoblcmnaaN1
import Derived.WalkKit
namespace Go.Proofs.Ytbajengoblcmnaa
open Go.RowKit
set_option linter.unusedVariables false

/-- a row of bytes -/
def byteRow (ys : List Int) : Array Value := (ys.map (Value.int .u8)).toArray
theorem byteRow_size (ys : List Int) : (byteRow ys).size = ys.length := by simp [byteRow]
/-- the bitmap at block g: its bytes lie in block h -/
structure BmAt (w : World) (g h : Nat) (ys : List Int) : Prop where
  ptr : w.heap[g]? = some (.cells #[.slice (some ⟨h, 0, none⟩) ys.length ys.length] 64 (0, 0))
  row : w.heap[h]? = some (.cells (byteRow ys) 5 (0, 0))
  byt : Byt ys
theorem BmAt.cell {w : World} {g h : Nat} {ys : List Int} (b : BmAt w g h ys) : w.cell? ⟨g, 0, none⟩ = some (.slice (some ⟨h, 0, none⟩) ys.length ys.length) := cell_of_row _ _ 0 _ _ _ b.ptr
theorem BmAt.at {w : World} {g h : Nat} {ys : List Int} (b : BmAt w g h ys) (i : Nat) (hi : i < ys.length) : w.cell? ⟨h, i, none⟩ = some (.int .u8 (ys.getD i 0)) := by
  rw [cell_of_row _ _ i _ _ _ b.row, byteRow, List.getElem?_toArray, List.getElem?_map, List.getD_eq_getElem?_getD, List.getElem?_eq_getElem hi]
  rfl
theorem BmAt.frz {w : World} {g h : Nat} {ys : List Int} (b : BmAt w g h ys) (i : Nat) : w.frozen? ⟨h, i, none⟩ = false := frozen_of_row _ _ i _ _ b.row
theorem BmAt.lt {w : World} {g h : Nat} {ys : List Int} (b : BmAt w g h ys) : g < w.heap.size ∧ h < w.heap.size := ⟨(Array.getElem?_eq_some_iff.1 b.ptr).1, (Array.getElem?_eq_some_iff.1 b.row).1⟩
theorem BmAt.ne {w : World} {g h : Nat} {ys : List Int} (b : BmAt w g h ys) : g ≠ h := fun e => by
  have h1 := b.ptr
  rw [e, b.row] at h1
  simp at h1
theorem BmAt.below {w w' : World} {B g h : Nat} {ys : List Int} (b : BmAt w g h ys) (hb : Below B w w') (hg : g < B) (hh : h < B) : BmAt w' g h ys := ⟨(hb.block g hg).trans b.ptr, (hb.block h hh).trans b.row, b.byt⟩

theorem Try.infoB : (Try.prog.info? 5).map (fun i => (i.zero, i.size, i.bytes)) = some (some (.int .u8 0), 1, 1) := by kernel_rfl
theorem mk_byte (n : Nat) (hn : n ≤ 1000000) (w : World) : (Instr.makeSlice 48 (.int .i64 (n : Int)) (.int .i64 (n : Int))).run Try.prog w = .ok (.slice (some ⟨w.heap.size, 0, none⟩) n n) (w.alloc (.cells (byteRow (List.replicate n 0)) 5)) := by
  obtain ⟨i0, hi, hz0, hz1, hz2⟩ := info_parts Try.infoB
  have h := run_makeSlice (P := Try.prog) w 48 5 i0 (.int .u8 0) Try.underlying48 hi hz0 .i64 .i64 (n : Int) (n : Int) (by omega) (by omega) (by rw [hz1]; simp; omega) (by rw [hz2]; omega) (by omega)
  have e : madeCells (Value.int .u8 0).cells n = byteRow (List.replicate n 0) := by
    apply Array.ext'
    rw [show (Value.int .u8 0).cells = #[.int .u8 0] from rfl, toList_madeCells_one]
    simp [byteRow]
  rw [h, hz1]
  simp only [Int.toNat_natCast, Nat.mul_one, e]

theorem heap_new {w : World} {o : Obj} {k : Nat} (h : k = w.heap.size) : (w.alloc o).heap[k]? = some o := by subst h; exact heap_alloc_new _ _
theorem Try.sizeB : (Try.prog.info? 5).map (·.size) = some 1 := by kernel_rfl
/-- the bytes ys lie at block g -/
def Src (w : World) (g : Nat) (ys : List Int) : Prop := ∀ i, i < ys.length → w.cell? ⟨g, i, none⟩ = some (.int .u8 (ys.getD i 0))
theorem BmAt.src {w : World} {g h : Nat} {ys : List Int} (b : BmAt w g h ys) : Src w h ys := fun i hi => b.at i hi
theorem Src.past {w : World} {g : Nat} {ys : List Int} (s : Src w g ys) (o : Obj) (hg : g < w.heap.size) : Src (w.alloc o) g ys := fun i hi => (World.cell?_alloc_lt w o ⟨g, i, none⟩ hg).trans (s i hi)
theorem run_copy_src (w : World) (g c g2 c2 : Nat) (ty : TypeId) (D : Array Value) (ys : List Int) (hg : w.heap[g]? = some (.cells D 5 (0, 0))) (hD : D.size = ys.length) (hs : Src w g2 ys) :
    (Builtin.copy_ #[48, 48] ty #[.slice (some ⟨g, 0, none⟩) ys.length c, .slice (some ⟨g2, 0, none⟩) ys.length c2]).run Try.prog w = .ok (goInt ys.length) (w.setRow g (byteRow ys)) := by
  have hl : (ys.map (Value.int .u8)).length = ys.length := by simp
  have h := run_copy_row (P := Try.prog) w 48 48 ty 5 g 0 ys.length c ⟨g2, 0, none⟩ ys.length c2 D 5 (ys.map (Value.int .u8)) Try.underlying48 Try.sizeB hg (by rw [hl]; exact (Nat.min_self _).symm)
    (fun j v hj => by
      have hj2 : j < ys.length := by
        rcases Nat.lt_or_ge j ys.length with hh | hh
        · exact hh
        · rw [List.getElem?_eq_none (by rw [hl]; exact hh)] at hj; cases hj
      have hp : (⟨g2, 0, none⟩ : Addr).add j = ⟨g2, j, none⟩ := by
        simp [Addr.add]
        exact fun e => e.symm
      rw [hp, hs j hj2, ← hj, List.getElem?_map, List.getD_eq_getElem?_getD, List.getElem?_eq_getElem hj2]
      rfl) (by rw [hl, hD]; omega) (fun v hv => by
      obtain ⟨x, _, rfl⟩ := List.mem_map.1 hv
      rfl)
  rw [h, hl]
  congr 2
  apply Array.ext'
  simp [byteRow, List.drop_eq_nil_of_le, hD]

theorem find_any (p : Nat) (w : World) (hp : (p : Int) ≤ 9223372036854775807) : Calls Try.prog 26 #[.int .i64 (p : Int)] w fun e w' => e = .returned (.tuple #[.int .i64 ((p / 8 : Nat) : Int), .int .u8 ((p % 8 : Nat) : Int)]) ∧ w = w' := by
  go_enter Try.func26, Try.ntmps26
  go_wp2
  go_ret2
  exact ⟨by simp, rfl⟩
/-- an error that is there -/
def IsErr (v : Value) : Prop := ∃ t x, v = .iface t x
theorem err_any (s : ByteArray) (w : World) : Calls Try.prog 25 #[.string s] w fun e w' => ∃ v, e = .returned v ∧ IsErr v ∧ Below w.heap.size w w' := by
  go_enter Try.func25, Try.ntmps25
  go_wp2
  go_ret
  exact ⟨_, rfl, ⟨_, _, rfl⟩, (Below.refl _ _).alloc (Nat.le_refl _) _⟩
theorem newbytes_any (n : Nat) (w : World) (hn : n ≤ 1000) : Calls Try.prog 14 #[.int .i64 (n : Int)] w fun e w' => ∃ g h, e = .returned (.pointer (some ⟨g, 0, none⟩)) ∧ BmAt w' g h (List.replicate n 0) ∧ w.heap.size ≤ g ∧ w.heap.size ≤ h ∧ Below w.heap.size w w' := by
  have hmk := mk_byte n (by omega)
  have h0 : ¬ (n : Int) < 0 := by omega
  go_enter Try.func14, Try.ntmps14
  go_wp2
  go_ret
  refine ⟨_, rfl, w.heap.size, ⟨?_, ?_, ?_⟩, by simp, Nat.le_refl _, ?_⟩
  · rw [List.length_replicate]
    exact heap_new (by simp)
  · rw [Below.heap_alloc _ _ _ (by simp)]
    exact heap_alloc_new _ _
  · intro y hy
    rw [List.eq_of_mem_replicate hy]
    omega
  · exact ((Below.refl _ _).alloc (Nat.le_refl _) _).alloc (by simp) _
theorem newbits_any (n : Nat) (w : World) (hn : n ≤ 1000) : Calls Try.prog 15 #[.int .i64 ((8 * n : Nat) : Int)] w fun e w' => ∃ g h, e = .returned (.pointer (some ⟨g, 0, none⟩)) ∧ BmAt w' g h (List.replicate n 0) ∧ w.heap.size ≤ g ∧ w.heap.size ≤ h ∧ Below w.heap.size w w' := by
  have h0 : ¬ ((8 * n : Nat) : Int) < 0 := by omega
  obtain ⟨m, hm⟩ : ∃ m : Int, m = ((8 * n : Nat) : Int) := ⟨_, rfl⟩
  rw [← hm] at h0 ⊢
  have hm1 : m ≤ 8000 := by omega
  have h8 : (m + 7) / 8 = (n : Int) := by omega
  have H8 := Lib.hid h8
  clear h8 hm
  go_enter Try.func15, Try.ntmps15
  go_wp2_with fail
  rw [H8.out]
  refine (newbytes_any n _ hn).mono ?_
  rintro e w1 ⟨g, h, rfl, hb, hg, hh, hbl⟩
  go_wp2
  go_ret
  exact ⟨g, h, rfl, hb, hg, hh, hbl⟩
theorem from_any (g2 c2 : Nat) (ys : List Int) (w : World) (hs : Src w g2 ys) (hg2 : g2 < w.heap.size) (hb : Byt ys) (hn : ys.length ≤ 1000) :
    Calls Try.prog 16 #[.slice (some ⟨g2, 0, none⟩) ys.length c2] w fun e w' => ∃ g h, e = .returned (.pointer (some ⟨g, 0, none⟩)) ∧ BmAt w' g h ys ∧ w.heap.size ≤ g ∧ w.heap.size ≤ h ∧ Below w.heap.size w w' := by
  have hmk := mk_byte ys.length (by omega)
  have hcp := run_copy_src (w.alloc (.cells (byteRow (List.replicate ys.length 0)) 5)) w.heap.size ys.length g2 c2 3 _ ys (heap_new rfl) (by rw [byteRow_size, List.length_replicate]) (hs.past _ hg2)
  go_enter Try.func16, Try.ntmps16
  go_wp2
  go_ret
  refine ⟨_, w.heap.size, rfl, ⟨?_, ?_, hb⟩, by simp, Nat.le_refl _, ?_⟩
  · exact heap_new (by simp)
  · rw [Below.heap_alloc _ _ _ (by simp)]
    exact heap_new rfl
  · exact ((Below.refl _ _).alloc (Nat.le_refl _) _).alloc (by simp) _
/-- a copy of the bytes: its world, to the letter -/
theorem tobytes_any (g h : Nat) (ys : List Int) (w : World) (hb : BmAt w g h ys) (hn : ys.length ≤ 1000) :
    Calls Try.prog 19 #[.pointer (some ⟨g, 0, none⟩)] w fun e w' => e = .returned (.slice (some ⟨w.heap.size, 0, none⟩) ys.length ys.length) ∧ w' = w.alloc (.cells (byteRow ys) 5) := by
  have hmk := mk_byte ys.length (by omega)
  have hlt := hb.lt
  have hc := hb.cell
  have hg := hlt.1
  have hcp := run_copy_src (w.alloc (.cells (byteRow (List.replicate ys.length 0)) 5)) w.heap.size ys.length h ys.length 3 _ ys (heap_new rfl) (by rw [byteRow_size, List.length_replicate]) (hb.src.past _ hlt.2)
  clear hb hlt
  go_enter Try.func19, Try.ntmps19
  go_wp2
  go_ret
  exact ⟨rfl, rfl⟩
end Go.Proofs.Ytbajengoblcmnaa
