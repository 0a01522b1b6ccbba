/- The rules of Blk at this program's structs and arrays. -/
import Derived.Test.YtblfacaicoaodaaBlk
namespace Go.Proofs.Ytblfacaicoaodaa
open Go.RowKit

theorem s26 : (Try.prog.info? 26).map (·.size) = some 19 := by kernel_rfl
def ld26 (a : Addr) : Sem Value := loadVar 26 a
@[go_sem ↓ high] theorem ld26_eq (a : Addr) : loadVar 26 a = ld26 a := rfl
@[go_sem] theorem run_ld26 (w : World) (g : Nat) (h : (blkD w g).size = 19) : (ld26 ⟨g, 0, none⟩).run Try.prog w = .ok (.agg (blkD w g)) w :=
  run_load_blk w g 18 26 _ Try.underlying26 rfl s26 h
def st26 (a : Addr) (v : Value) : Sem Unit := storeVar 26 a v
@[go_sem ↓ high] theorem st26_eq (a : Addr) (v : Value) : storeVar 26 a v = st26 a v := rfl
@[go_sem] theorem run_st26 (w : World) (g : Nat) (cells : Array Value) (h : (blkD w g).size = 19) (hs : cells.size = 19) (h1 : cells.all (·.oneCell') = true) :
    (st26 ⟨g, 0, none⟩ (.agg cells)).run Try.prog w = .ok () (w.setRow g cells) :=
  run_store_blk w g 18 26 cells s26 h hs h1
theorem s57 : (Try.prog.info? 57).map (·.size) = some 8 := by kernel_rfl
def ld57 (a : Addr) : Sem Value := loadVar 57 a
@[go_sem ↓ high] theorem ld57_eq (a : Addr) : loadVar 57 a = ld57 a := rfl
@[go_sem] theorem run_ld57 (w : World) (g : Nat) (h : (blkD w g).size = 8) : (ld57 ⟨g, 0, none⟩).run Try.prog w = .ok (.agg (blkD w g)) w :=
  run_load_blk w g 7 57 _ Try.underlying57 rfl s57 h
def st57 (a : Addr) (v : Value) : Sem Unit := storeVar 57 a v
@[go_sem ↓ high] theorem st57_eq (a : Addr) (v : Value) : storeVar 57 a v = st57 a v := rfl
@[go_sem] theorem run_st57 (w : World) (g : Nat) (cells : Array Value) (h : (blkD w g).size = 8) (hs : cells.size = 8) (h1 : cells.all (·.oneCell') = true) :
    (st57 ⟨g, 0, none⟩ (.agg cells)).run Try.prog w = .ok () (w.setRow g cells) :=
  run_store_blk w g 7 57 cells s57 h hs h1
theorem s59 : (Try.prog.info? 59).map (·.size) = some 5 := by kernel_rfl
def ld59 (a : Addr) : Sem Value := loadVar 59 a
@[go_sem ↓ high] theorem ld59_eq (a : Addr) : loadVar 59 a = ld59 a := rfl
@[go_sem] theorem run_ld59 (w : World) (g : Nat) (h : (blkD w g).size = 5) : (ld59 ⟨g, 0, none⟩).run Try.prog w = .ok (.agg (blkD w g)) w :=
  run_load_blk w g 4 59 _ Try.underlying59 rfl s59 h
def st59 (a : Addr) (v : Value) : Sem Unit := storeVar 59 a v
@[go_sem ↓ high] theorem st59_eq (a : Addr) (v : Value) : storeVar 59 a v = st59 a v := rfl
@[go_sem] theorem run_st59 (w : World) (g : Nat) (cells : Array Value) (h : (blkD w g).size = 5) (hs : cells.size = 5) (h1 : cells.all (·.oneCell') = true) :
    (st59 ⟨g, 0, none⟩ (.agg cells)).run Try.prog w = .ok () (w.setRow g cells) :=
  run_store_blk w g 4 59 cells s59 h hs h1
theorem s47 : (Try.prog.info? 47).map (·.size) = some 7 := by kernel_rfl
def ld47 (a : Addr) : Sem Value := loadVar 47 a
@[go_sem ↓ high] theorem ld47_eq (a : Addr) : loadVar 47 a = ld47 a := rfl
@[go_sem] theorem run_ld47 (w : World) (g : Nat) (h : (blkD w g).size = 7) : (ld47 ⟨g, 0, none⟩).run Try.prog w = .ok (.agg (blkD w g)) w :=
  run_load_blk w g 6 47 _ Try.underlying47 rfl s47 h
def st47 (a : Addr) (v : Value) : Sem Unit := storeVar 47 a v
@[go_sem ↓ high] theorem st47_eq (a : Addr) (v : Value) : storeVar 47 a v = st47 a v := rfl
@[go_sem] theorem run_st47 (w : World) (g : Nat) (cells : Array Value) (h : (blkD w g).size = 7) (hs : cells.size = 7) (h1 : cells.all (·.oneCell') = true) :
    (st47 ⟨g, 0, none⟩ (.agg cells)).run Try.prog w = .ok () (w.setRow g cells) :=
  run_store_blk w g 6 47 cells s47 h hs h1
attribute [go_sem] Value.oneCell' Value.cells

theorem results6_blk (tmps : Array Value) (w : World) (g : Nat) (cs : Array Value) (hp : tmps.getD 4 undef = .pointer (some ⟨g, 0, none⟩)) (h : blkD w g = cs) (hs : cs.size = 19) :
    (results Try.f6 tmps).run Try.prog w = .ok (.agg cs) w := by
  subst h
  obtain ⟨t, ht⟩ := blkD_heap hs
  exact results_cell_row Try.results6 tmps w g t _ _ _ hp ht Try.underlying26 rfl (by rw [s26, hs])

end Go.Proofs.Ytblfacaicoaodaa
