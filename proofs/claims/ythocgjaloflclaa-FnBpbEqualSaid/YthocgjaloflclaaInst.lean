/- The rules of Blk at this program's structs and arrays. -/
import Derived.Test.YthocgjaloflclaaBlk
namespace Go.Proofs.Ythocgjaloflclaa
open Go.RowKit

theorem s25 : (Try.prog.info? 25).map (·.size) = some 19 := by kernel_rfl
def ld25 (a : Addr) : Sem Value := loadVar 25 a
@[go_sem ↓ high] theorem ld25_eq (a : Addr) : loadVar 25 a = ld25 a := rfl
@[go_sem] theorem run_ld25 (w : World) (g : Nat) (h : (blkD w g).size = 19) : (ld25 ⟨g, 0, none⟩).run Try.prog w = .ok (.agg (blkD w g)) w :=
  run_load_blk w g 18 25 _ Try.underlying25 rfl s25 h
def st25 (a : Addr) (v : Value) : Sem Unit := storeVar 25 a v
@[go_sem ↓ high] theorem st25_eq (a : Addr) (v : Value) : storeVar 25 a v = st25 a v := rfl
@[go_sem] theorem run_st25 (w : World) (g : Nat) (cells : Array Value) (h : (blkD w g).size = 19) (hs : cells.size = 19) (h1 : cells.all (·.oneCell') = true) :
    (st25 ⟨g, 0, none⟩ (.agg cells)).run Try.prog w = .ok () (w.setRow g cells) :=
  run_store_blk w g 18 25 cells s25 h hs h1
theorem s23 : (Try.prog.info? 23).map (·.size) = some 16 := by kernel_rfl
def ld23 (a : Addr) : Sem Value := loadVar 23 a
@[go_sem ↓ high] theorem ld23_eq (a : Addr) : loadVar 23 a = ld23 a := rfl
@[go_sem] theorem run_ld23 (w : World) (g : Nat) (h : (blkD w g).size = 16) : (ld23 ⟨g, 0, none⟩).run Try.prog w = .ok (.agg (blkD w g)) w :=
  run_load_blk w g 15 23 _ Try.underlying23 rfl s23 h
def st23 (a : Addr) (v : Value) : Sem Unit := storeVar 23 a v
@[go_sem ↓ high] theorem st23_eq (a : Addr) (v : Value) : storeVar 23 a v = st23 a v := rfl
@[go_sem] theorem run_st23 (w : World) (g : Nat) (cells : Array Value) (h : (blkD w g).size = 16) (hs : cells.size = 16) (h1 : cells.all (·.oneCell') = true) :
    (st23 ⟨g, 0, none⟩ (.agg cells)).run Try.prog w = .ok () (w.setRow g cells) :=
  run_store_blk w g 15 23 cells s23 h hs h1
theorem s49 : (Try.prog.info? 49).map (·.size) = some 8 := by kernel_rfl
def ld49 (a : Addr) : Sem Value := loadVar 49 a
@[go_sem ↓ high] theorem ld49_eq (a : Addr) : loadVar 49 a = ld49 a := rfl
@[go_sem] theorem run_ld49 (w : World) (g : Nat) (h : (blkD w g).size = 8) : (ld49 ⟨g, 0, none⟩).run Try.prog w = .ok (.agg (blkD w g)) w :=
  run_load_blk w g 7 49 _ Try.underlying49 rfl s49 h
def st49 (a : Addr) (v : Value) : Sem Unit := storeVar 49 a v
@[go_sem ↓ high] theorem st49_eq (a : Addr) (v : Value) : storeVar 49 a v = st49 a v := rfl
@[go_sem] theorem run_st49 (w : World) (g : Nat) (cells : Array Value) (h : (blkD w g).size = 8) (hs : cells.size = 8) (h1 : cells.all (·.oneCell') = true) :
    (st49 ⟨g, 0, none⟩ (.agg cells)).run Try.prog w = .ok () (w.setRow g cells) :=
  run_store_blk w g 7 49 cells s49 h hs h1
theorem s46 : (Try.prog.info? 46).map (·.size) = some 5 := by kernel_rfl
def ld46 (a : Addr) : Sem Value := loadVar 46 a
@[go_sem ↓ high] theorem ld46_eq (a : Addr) : loadVar 46 a = ld46 a := rfl
@[go_sem] theorem run_ld46 (w : World) (g : Nat) (h : (blkD w g).size = 5) : (ld46 ⟨g, 0, none⟩).run Try.prog w = .ok (.agg (blkD w g)) w :=
  run_load_blk w g 4 46 _ Try.underlying46 rfl s46 h
def st46 (a : Addr) (v : Value) : Sem Unit := storeVar 46 a v
@[go_sem ↓ high] theorem st46_eq (a : Addr) (v : Value) : storeVar 46 a v = st46 a v := rfl
@[go_sem] theorem run_st46 (w : World) (g : Nat) (cells : Array Value) (h : (blkD w g).size = 5) (hs : cells.size = 5) (h1 : cells.all (·.oneCell') = true) :
    (st46 ⟨g, 0, none⟩ (.agg cells)).run Try.prog w = .ok () (w.setRow g cells) :=
  run_store_blk w g 4 46 cells s46 h hs h1
theorem s42 : (Try.prog.info? 42).map (·.size) = some 7 := by kernel_rfl
def ld42 (a : Addr) : Sem Value := loadVar 42 a
@[go_sem ↓ high] theorem ld42_eq (a : Addr) : loadVar 42 a = ld42 a := rfl
@[go_sem] theorem run_ld42 (w : World) (g : Nat) (h : (blkD w g).size = 7) : (ld42 ⟨g, 0, none⟩).run Try.prog w = .ok (.agg (blkD w g)) w :=
  run_load_blk w g 6 42 _ Try.underlying42 rfl s42 h
def st42 (a : Addr) (v : Value) : Sem Unit := storeVar 42 a v
@[go_sem ↓ high] theorem st42_eq (a : Addr) (v : Value) : storeVar 42 a v = st42 a v := rfl
@[go_sem] theorem run_st42 (w : World) (g : Nat) (cells : Array Value) (h : (blkD w g).size = 7) (hs : cells.size = 7) (h1 : cells.all (·.oneCell') = true) :
    (st42 ⟨g, 0, none⟩ (.agg cells)).run Try.prog w = .ok () (w.setRow g cells) :=
  run_store_blk w g 6 42 cells s42 h hs h1
attribute [go_sem] Value.oneCell' Value.cells

theorem results5_blk (tmps : Array Value) (w : World) (g : Nat) (cs : Array Value) (hp : tmps.getD 8 undef = .pointer (some ⟨g, 0, none⟩)) (h : blkD w g = cs) (hs : cs.size = 19) :
    (results Try.f5 tmps).run Try.prog w = .ok (.agg cs) w := by
  subst h
  obtain ⟨t, ht⟩ := blkD_heap hs
  exact results_cell_row Try.results5 tmps w g t _ _ _ hp ht Try.underlying25 rfl (by rw [s25, hs])

end Go.Proofs.Ythocgjaloflclaa
