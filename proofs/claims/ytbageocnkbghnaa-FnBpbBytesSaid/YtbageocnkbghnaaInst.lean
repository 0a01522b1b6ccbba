/- The rules of Blk at this program's structs and arrays. -/
import Derived.Test.YtbageocnkbghnaaBlk
namespace Go.Proofs.Ytbageocnkbghnaa
open Go.RowKit

theorem s25 : (Try.prog.info? 25).map (·.size) = some 19 := by kernel_rfl
def ld25 (a : Addr) : Sem Value := loadVar 25 a
@[go_sem ↓ high] theorem ld25_eq (a : Addr) : loadVar 25 a = ld25 a := rfl
@[go_sem] theorem run_ld25 (w : World) (g : Nat) (h : (blkD w g).size = 19) : (ld25 ⟨g, 0, none⟩).run Try.prog w = .ok (.agg (blkD w g)) w :=
  run_load_blk w g 18 25 _ Try.underlying25 rfl s25 h
def st25 (a : Addr) (v : Value) : Sem Unit := storeVar 25 a v
@[go_sem ↓ high] theorem st25_eq (a : Addr) (v : Value) : storeVar 25 a v = st25 a v := rfl
@[go_sem] theorem run_st25 (w : World) (g : Nat) (cells : Array Value) (h : (blkD w g).size = 19) (hs : cells.size = 19) (h1 : cells.all (·.oneCell') = true) :
    (st25 ⟨g, 0, none⟩ (.agg cells)).run Try.prog w = .ok () (w.setRow g cells) :=
  run_store_blk w g 18 25 cells s25 h hs h1
theorem s23 : (Try.prog.info? 23).map (·.size) = some 16 := by kernel_rfl
def ld23 (a : Addr) : Sem Value := loadVar 23 a
@[go_sem ↓ high] theorem ld23_eq (a : Addr) : loadVar 23 a = ld23 a := rfl
@[go_sem] theorem run_ld23 (w : World) (g : Nat) (h : (blkD w g).size = 16) : (ld23 ⟨g, 0, none⟩).run Try.prog w = .ok (.agg (blkD w g)) w :=
  run_load_blk w g 15 23 _ Try.underlying23 rfl s23 h
def st23 (a : Addr) (v : Value) : Sem Unit := storeVar 23 a v
@[go_sem ↓ high] theorem st23_eq (a : Addr) (v : Value) : storeVar 23 a v = st23 a v := rfl
@[go_sem] theorem run_st23 (w : World) (g : Nat) (cells : Array Value) (h : (blkD w g).size = 16) (hs : cells.size = 16) (h1 : cells.all (·.oneCell') = true) :
    (st23 ⟨g, 0, none⟩ (.agg cells)).run Try.prog w = .ok () (w.setRow g cells) :=
  run_store_blk w g 15 23 cells s23 h hs h1
theorem s51 : (Try.prog.info? 51).map (·.size) = some 8 := by kernel_rfl
def ld51 (a : Addr) : Sem Value := loadVar 51 a
@[go_sem ↓ high] theorem ld51_eq (a : Addr) : loadVar 51 a = ld51 a := rfl
@[go_sem] theorem run_ld51 (w : World) (g : Nat) (h : (blkD w g).size = 8) : (ld51 ⟨g, 0, none⟩).run Try.prog w = .ok (.agg (blkD w g)) w :=
  run_load_blk w g 7 51 _ Try.underlying51 rfl s51 h
def st51 (a : Addr) (v : Value) : Sem Unit := storeVar 51 a v
@[go_sem ↓ high] theorem st51_eq (a : Addr) (v : Value) : storeVar 51 a v = st51 a v := rfl
@[go_sem] theorem run_st51 (w : World) (g : Nat) (cells : Array Value) (h : (blkD w g).size = 8) (hs : cells.size = 8) (h1 : cells.all (·.oneCell') = true) :
    (st51 ⟨g, 0, none⟩ (.agg cells)).run Try.prog w = .ok () (w.setRow g cells) :=
  run_store_blk w g 7 51 cells s51 h hs h1
theorem s56 : (Try.prog.info? 56).map (·.size) = some 5 := by kernel_rfl
def ld56 (a : Addr) : Sem Value := loadVar 56 a
@[go_sem ↓ high] theorem ld56_eq (a : Addr) : loadVar 56 a = ld56 a := rfl
@[go_sem] theorem run_ld56 (w : World) (g : Nat) (h : (blkD w g).size = 5) : (ld56 ⟨g, 0, none⟩).run Try.prog w = .ok (.agg (blkD w g)) w :=
  run_load_blk w g 4 56 _ Try.underlying56 rfl s56 h
def st56 (a : Addr) (v : Value) : Sem Unit := storeVar 56 a v
@[go_sem ↓ high] theorem st56_eq (a : Addr) (v : Value) : storeVar 56 a v = st56 a v := rfl
@[go_sem] theorem run_st56 (w : World) (g : Nat) (cells : Array Value) (h : (blkD w g).size = 5) (hs : cells.size = 5) (h1 : cells.all (·.oneCell') = true) :
    (st56 ⟨g, 0, none⟩ (.agg cells)).run Try.prog w = .ok () (w.setRow g cells) :=
  run_store_blk w g 4 56 cells s56 h hs h1
theorem s59 : (Try.prog.info? 59).map (·.size) = some 7 := by kernel_rfl
def ld59 (a : Addr) : Sem Value := loadVar 59 a
@[go_sem ↓ high] theorem ld59_eq (a : Addr) : loadVar 59 a = ld59 a := rfl
@[go_sem] theorem run_ld59 (w : World) (g : Nat) (h : (blkD w g).size = 7) : (ld59 ⟨g, 0, none⟩).run Try.prog w = .ok (.agg (blkD w g)) w :=
  run_load_blk w g 6 59 _ Try.underlying59 rfl s59 h
def st59 (a : Addr) (v : Value) : Sem Unit := storeVar 59 a v
@[go_sem ↓ high] theorem st59_eq (a : Addr) (v : Value) : storeVar 59 a v = st59 a v := rfl
@[go_sem] theorem run_st59 (w : World) (g : Nat) (cells : Array Value) (h : (blkD w g).size = 7) (hs : cells.size = 7) (h1 : cells.all (·.oneCell') = true) :
    (st59 ⟨g, 0, none⟩ (.agg cells)).run Try.prog w = .ok () (w.setRow g cells) :=
  run_store_blk w g 6 59 cells s59 h hs h1
attribute [go_sem] Value.oneCell' Value.cells

theorem results4_blk (tmps : Array Value) (w : World) (g : Nat) (cs : Array Value) (hp : tmps.getD 8 undef = .pointer (some ⟨g, 0, none⟩)) (h : blkD w g = cs) (hs : cs.size = 19) :
    (results Try.f4 tmps).run Try.prog w = .ok (.agg cs) w := by
  subst h
  obtain ⟨t, ht⟩ := blkD_heap hs
  exact results_cell_row Try.results4 tmps w g t _ _ _ hp ht Try.underlying25 rfl (by rw [s25, hs])

end Go.Proofs.Ytbageocnkbghnaa
