/- The law's map of sizes; a row of bytes made, filled and written. -/
import Derived.Test.YtblfacaicoaodaaPG
import Derived.Test.YtblfacaicoaodaaPF
import Derived.Maps.Own
import Derived.Carry
namespace Go.Proofs.Ytblfacaicoaodaa
open Go.RowKit Go.Maps
set_option linter.unusedVariables false

theorem keyedI : Keyed Try.prog 3 := int_keyed Try.underlying3
theorem zeroI (w : World) : (zeroValue 3).run Try.prog w = .ok (.int .i64 0) w := by
  obtain ⟨i, hi⟩ := Option.isSome_iff_exists.1 (show (Try.prog.info? 3).isSome = true by kernel_rfl)
  have hz : (Try.prog.info? 3).bind (·.zero) = some (.int .i64 0) := by kernel_rfl
  rw [hi] at hz
  simp only [Option.bind_some] at hz
  simp [zeroValue, typeInfo, hi, hz]
theorem lit_back {a b : Int} (h : (DataW.lit (Lit.int IntKind.i64 b) : DataW Unit) = DataW.lit (Lit.int IntKind.i64 a)) : a = b := by
  cases h
  rfl
/-- the three sizes, put into the map and looked up -/
theorem map_sizes (w1 : World) (k : Int) (c : Int) (hk : (k = 20 ∧ c = 13) ∨ (k = 331 ∧ c = 25) ∨ (k = 40 ∧ c = 51)) : ∃ wa wb wc : World,
    (Instr.mapUpdate 23 (.map (some w1.heap.size)) (.int .i64 20) (.int .i64 13)).run Try.prog (w1.alloc (.map #[] 0)) = .ok () wa ∧
    (Instr.mapUpdate 23 (.map (some w1.heap.size)) (.int .i64 331) (.int .i64 25)).run Try.prog wa = .ok () wb ∧
    (Instr.mapUpdate 23 (.map (some w1.heap.size)) (.int .i64 40) (.int .i64 51)).run Try.prog wb = .ok () wc ∧
    (Instr.lookup 23 (.map (some w1.heap.size)) (.int .i64 k) false).run Try.prog wc = .ok (.int .i64 c) wc ∧ Below w1.heap.size w1 wc := by
  have h0 := World.ownsMap_made w1 Try.prog 3 (plainElem (H := Unit) Try.prog 3)
  obtain ⟨wa, ra, oa, ga⟩ := h0.update keyedI Try.underlying23 (by unfold maxLen; omega) (keyOf_int_mk Try.underlying3 (a := 20) (by decide)) (plainElem_int Try.underlying3 (q := .i64) (a := 13) (by decide))
  obtain ⟨wb, rb, ob, gb⟩ := oa.update keyedI Try.underlying23 (by unfold maxLen; omega) (keyOf_int_mk Try.underlying3 (a := 331) (by decide)) (plainElem_int Try.underlying3 (q := .i64) (a := 25) (by decide))
  obtain ⟨wc, rc, oc, gc⟩ := ob.update keyedI Try.underlying23 (by unfold maxLen; omega) (keyOf_int_mk Try.underlying3 (a := 40) (by decide)) (plainElem_int Try.underlying3 (q := .i64) (a := 51) (by decide))
  have hkey : ∃ kl, keyOf Try.prog 3 (.int .i64 k) = some kl ∧ kl = .int .i64 k := ⟨_, keyOf_int_mk Try.underlying3 (by rcases hk with ⟨rfl, _⟩ | ⟨rfl, _⟩ | ⟨rfl, _⟩ <;> decide), rfl⟩
  obtain ⟨kl, hk1, rfl⟩ := hkey
  obtain ⟨c', rl, hat, _⟩ := oc.lookup_int keyedI Try.underlying23 Try.underlying3 (zeroI wc) hk1
  refine ⟨wa, wb, wc, ra, rb, rc, ?_, ?_⟩
  · have : c' = c := by
      rcases hk with ⟨rfl, rfl⟩ | ⟨rfl, rfl⟩ | ⟨rfl, rfl⟩
      · exact lit_back ((by kernel_rfl : (DataW.lit (Lit.int IntKind.i64 13) : DataW Unit) = _).trans hat)
      · exact lit_back ((by kernel_rfl : (DataW.lit (Lit.int IntKind.i64 25) : DataW Unit) = _).trans hat)
      · exact lit_back ((by kernel_rfl : (DataW.lit (Lit.int IntKind.i64 51) : DataW Unit) = _).trans hat)
    rw [rl, this]
  · exact ((((Below.refl _ _).alloc (Nat.le_refl _) _).grown ga (by simp) (fun j hj => by cases hj; exact Nat.le_refl _)).grown gb (by have := ga.size; simp at this; omega) (fun j hj => by cases hj; exact Nat.le_refl _)).grown gc (by have := ga.size; have := gb.size; simp at *; omega) (fun j hj => by cases hj; exact Nat.le_refl _)

/-- a row of bytes -/
def byteRow (ys : List Int) : Array Value := (ys.map (Value.int .u8)).toArray
theorem byteRow_size (ys : List Int) : (byteRow ys).size = ys.length := by simp [byteRow]
theorem byt_mem {ys : List Int} (h : ∀ y ∈ ys, 0 ≤ y ∧ y < 256) : Byt ys := fun i => by
  by_cases hi : i < ys.length
  · rw [List.getD_eq_getElem?_getD, List.getElem?_eq_getElem hi]
    exact h _ (List.getElem_mem _)
  · rw [List.getD_eq_getElem?_getD, List.getElem?_eq_none (by omega)]
    simp
theorem Byt.put {ys : List Int} (h : Byt ys) (k : Nat) {x : Int} (hx : 0 ≤ x ∧ x < 256) : Byt (ys.set k x) := fun i => by
  rw [List.getD_eq_getElem?_getD, List.getElem?_set]
  have := h i
  rw [List.getD_eq_getElem?_getD] at this
  split
  · split
    · simpa using hx
    · simp
  · exact this
theorem bys_row {w : World} {g : Nat} {ys : List Int} (h : w.heap[g]? = some (.cells (byteRow ys) 5 (0, 0))) : Bys w g ys := fun i hi => by
  rw [cell_of_row _ _ i _ _ _ h, byteRow, List.getElem?_toArray, List.getElem?_map, List.getD_eq_getElem?_getD, List.getElem?_eq_getElem hi]
  rfl
theorem Try.infoB : (Try.prog.info? 5).map (fun i => (i.zero, i.size, i.bytes)) = some (some (.int .u8 0), 1, 1) := by kernel_rfl
theorem mk_byte (n : Nat) (hn : n ≤ 1000000) (w : World) : (Instr.makeSlice 24 (.int .i64 (n : Int)) (.int .i64 (n : Int))).run Try.prog w = .ok (.slice (some ⟨w.heap.size, 0, none⟩) n n) (w.alloc (.cells (byteRow (List.replicate n 0)) 5)) := by
  obtain ⟨i0, hi, hz0, hz1, hz2⟩ := info_parts Try.infoB
  have h := run_makeSlice (P := Try.prog) w 24 5 i0 (.int .u8 0) Try.underlying24 hi hz0 .i64 .i64 (n : Int) (n : Int) (by omega) (by omega) (by rw [hz1]; simp; omega) (by rw [hz2]; omega) (by omega)
  have e : madeCells (Value.int .u8 0).cells n = byteRow (List.replicate n 0) := by
    apply Array.ext'
    rw [show (Value.int .u8 0).cells = #[.int .u8 0] from rfl, toList_madeCells_one]
    simp [byteRow]
  rw [h, hz1]
  simp only [Int.toNat_natCast, Nat.mul_one, e]
theorem heap_new {w : World} {o : Obj} {k : Nat} (h : k = w.heap.size) : (w.alloc o).heap[k]? = some o := by subst h; exact heap_alloc_new _ _
/-- a text goes over a row, as far as it fits -/
theorem copy_cut (w : World) (g n c : Nat) (ty : TypeId) (s : ByteArray) (ys : List Int) (hg : w.heap[g]? = some (.cells (byteRow ys) 5 (0, 0))) (hl : ys.length = n) (hB : Byt ys) :
    ∃ (m : Int) (zs : List Int), (Builtin.copy_ #[24, 9] ty #[.slice (some ⟨g, 0, none⟩) n c, .string s]).run Try.prog w = .ok (.int .i64 m) (w.setRow g (byteRow zs)) ∧ zs.length = n ∧ Byt zs := by
  obtain ⟨i0, hi, hz0, hz1, hz2⟩ := info_parts Try.infoB
  obtain ⟨k, hk⟩ : ∃ k, k = Nat.min s.size n := ⟨_, rfl⟩
  have hkn : k ≤ n := by rw [hk]; exact Nat.min_le_right _ _
  have hks : k ≤ s.size := by rw [hk]; exact Nat.min_le_left _ _
  obtain ⟨xs, hxs⟩ : ∃ xs : List Int, xs = (s.data.toList.map fun x => (x.toNat : Int)).take k := ⟨_, rfl⟩
  have hlen : xs.length = k := by
    rw [hxs, List.length_take, List.length_map]
    have : s.data.toList.length = s.size := Array.length_toList
    omega
  have hst := run_storeCells_at Try.prog g 0 5 (xs.map (Value.int .u8)) 0 (byteRow ys) w hg (by simp [byteRow_size, hlen]; omega) (fun v hv => by
    obtain ⟨x, _, rfl⟩ := List.mem_map.1 hv
    rfl)
  simp only [Nat.add_zero] at hst
  refine ⟨k, xs ++ ys.drop k, ?_, by rw [List.length_append, List.length_drop]; omega, byt_mem fun y hy => ?_⟩
  · have htk : List.take k (List.map (fun b : UInt8 => Value.int IntKind.u8 (b.toNat : Int)) s.data.toList) = xs.map (Value.int .u8) := by
      rw [hxs, List.map_take, List.map_map]
      rfl
    simp [Builtin.copy_, run_underlying Try.underlying24, Builtin.lenOf, Builtin.firstCells, sizeOf, typeInfo, hi, ← hk]
    rw [htk, hst]
    have e : (List.take 0 (byteRow ys).toList ++ List.map (Value.int IntKind.u8) xs ++ List.drop (0 + (List.map (Value.int IntKind.u8) xs).length) (byteRow ys).toList).toArray = byteRow (xs ++ List.drop k ys) := by
      simp [byteRow, hlen, List.map_drop]
    rw [e]
    rfl
  · rcases List.mem_append.1 hy with hy | hy
    · rw [hxs] at hy
      obtain ⟨x, _, rfl⟩ := List.mem_map.1 (List.mem_of_mem_take hy)
      have := x.toNat_lt
      omega
    · obtain ⟨i, hi', e⟩ := List.mem_iff_getElem.1 (List.mem_of_mem_drop hy)
      have := hB i
      rw [List.getD_eq_getElem?_getD, List.getElem?_eq_getElem hi'] at this
      rw [← e]
      exact this
end Go.Proofs.Ytblfacaicoaodaa
