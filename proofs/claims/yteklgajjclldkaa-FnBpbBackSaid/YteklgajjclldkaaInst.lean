/- The rules of Blk at this program's structs and arrays. -/
import Derived.Test.YteklgajjclldkaaBlk
namespace Go.Proofs.Yteklgajjclldkaa
open Go.RowKit

theorem s25 : (Try.prog.info? 25).map (·.size) = some 19 := by kernel_rfl
def ld25 (a : Addr) : Sem Value := loadVar 25 a
@[go_sem ↓ high] theorem ld25_eq (a : Addr) : loadVar 25 a = ld25 a := rfl
@[go_sem] theorem run_ld25 (w : World) (g : Nat) (h : (blkD w g).size = 19) : (ld25 ⟨g, 0, none⟩).run Try.prog w = .ok (.agg (blkD w g)) w :=
  run_load_blk w g 18 25 _ Try.underlying25 rfl s25 h
def st25 (a : Addr) (v : Value) : Sem Unit := storeVar 25 a v
@[go_sem ↓ high] theorem st25_eq (a : Addr) (v : Value) : storeVar 25 a v = st25 a v := rfl
@[go_sem] theorem run_st25 (w : World) (g : Nat) (cells : Array Value) (h : (blkD w g).size = 19) (hs : cells.size = 19) (h1 : cells.all (·.oneCell') = true) :
    (st25 ⟨g, 0, none⟩ (.agg cells)).run Try.prog w = .ok () (w.setRow g cells) :=
  run_store_blk w g 18 25 cells s25 h hs h1
theorem s23 : (Try.prog.info? 23).map (·.size) = some 16 := by kernel_rfl
def ld23 (a : Addr) : Sem Value := loadVar 23 a
@[go_sem ↓ high] theorem ld23_eq (a : Addr) : loadVar 23 a = ld23 a := rfl
@[go_sem] theorem run_ld23 (w : World) (g : Nat) (h : (blkD w g).size = 16) : (ld23 ⟨g, 0, none⟩).run Try.prog w = .ok (.agg (blkD w g)) w :=
  run_load_blk w g 15 23 _ Try.underlying23 rfl s23 h
def st23 (a : Addr) (v : Value) : Sem Unit := storeVar 23 a v
@[go_sem ↓ high] theorem st23_eq (a : Addr) (v : Value) : storeVar 23 a v = st23 a v := rfl
@[go_sem] theorem run_st23 (w : World) (g : Nat) (cells : Array Value) (h : (blkD w g).size = 16) (hs : cells.size = 16) (h1 : cells.all (·.oneCell') = true) :
    (st23 ⟨g, 0, none⟩ (.agg cells)).run Try.prog w = .ok () (w.setRow g cells) :=
  run_store_blk w g 15 23 cells s23 h hs h1
theorem s62 : (Try.prog.info? 62).map (·.size) = some 8 := by kernel_rfl
def ld62 (a : Addr) : Sem Value := loadVar 62 a
@[go_sem ↓ high] theorem ld62_eq (a : Addr) : loadVar 62 a = ld62 a := rfl
@[go_sem] theorem run_ld62 (w : World) (g : Nat) (h : (blkD w g).size = 8) : (ld62 ⟨g, 0, none⟩).run Try.prog w = .ok (.agg (blkD w g)) w :=
  run_load_blk w g 7 62 _ Try.underlying62 rfl s62 h
def st62 (a : Addr) (v : Value) : Sem Unit := storeVar 62 a v
@[go_sem ↓ high] theorem st62_eq (a : Addr) (v : Value) : storeVar 62 a v = st62 a v := rfl
@[go_sem] theorem run_st62 (w : World) (g : Nat) (cells : Array Value) (h : (blkD w g).size = 8) (hs : cells.size = 8) (h1 : cells.all (·.oneCell') = true) :
    (st62 ⟨g, 0, none⟩ (.agg cells)).run Try.prog w = .ok () (w.setRow g cells) :=
  run_store_blk w g 7 62 cells s62 h hs h1
theorem s67 : (Try.prog.info? 67).map (·.size) = some 5 := by kernel_rfl
def ld67 (a : Addr) : Sem Value := loadVar 67 a
@[go_sem ↓ high] theorem ld67_eq (a : Addr) : loadVar 67 a = ld67 a := rfl
@[go_sem] theorem run_ld67 (w : World) (g : Nat) (h : (blkD w g).size = 5) : (ld67 ⟨g, 0, none⟩).run Try.prog w = .ok (.agg (blkD w g)) w :=
  run_load_blk w g 4 67 _ Try.underlying67 rfl s67 h
def st67 (a : Addr) (v : Value) : Sem Unit := storeVar 67 a v
@[go_sem ↓ high] theorem st67_eq (a : Addr) (v : Value) : storeVar 67 a v = st67 a v := rfl
@[go_sem] theorem run_st67 (w : World) (g : Nat) (cells : Array Value) (h : (blkD w g).size = 5) (hs : cells.size = 5) (h1 : cells.all (·.oneCell') = true) :
    (st67 ⟨g, 0, none⟩ (.agg cells)).run Try.prog w = .ok () (w.setRow g cells) :=
  run_store_blk w g 4 67 cells s67 h hs h1
theorem s57 : (Try.prog.info? 57).map (·.size) = some 7 := by kernel_rfl
def ld57 (a : Addr) : Sem Value := loadVar 57 a
@[go_sem ↓ high] theorem ld57_eq (a : Addr) : loadVar 57 a = ld57 a := rfl
@[go_sem] theorem run_ld57 (w : World) (g : Nat) (h : (blkD w g).size = 7) : (ld57 ⟨g, 0, none⟩).run Try.prog w = .ok (.agg (blkD w g)) w :=
  run_load_blk w g 6 57 _ Try.underlying57 rfl s57 h
def st57 (a : Addr) (v : Value) : Sem Unit := storeVar 57 a v
@[go_sem ↓ high] theorem st57_eq (a : Addr) (v : Value) : storeVar 57 a v = st57 a v := rfl
@[go_sem] theorem run_st57 (w : World) (g : Nat) (cells : Array Value) (h : (blkD w g).size = 7) (hs : cells.size = 7) (h1 : cells.all (·.oneCell') = true) :
    (st57 ⟨g, 0, none⟩ (.agg cells)).run Try.prog w = .ok () (w.setRow g cells) :=
  run_store_blk w g 6 57 cells s57 h hs h1
attribute [go_sem] Value.oneCell' Value.cells

theorem results4_blk (tmps : Array Value) (w : World) (g : Nat) (cs : Array Value) (hp : tmps.getD 8 undef = .pointer (some ⟨g, 0, none⟩)) (h : blkD w g = cs) (hs : cs.size = 19) :
    (results Try.f4 tmps).run Try.prog w = .ok (.agg cs) w := by
  subst h
  obtain ⟨t, ht⟩ := blkD_heap hs
  exact results_cell_row Try.results4 tmps w g t _ _ _ hp ht Try.underlying25 rfl (by rw [s25, hs])

end Go.Proofs.Yteklgajjclldkaa
