/- The rules of Blk at this program's structs and arrays. -/
import Derived.Test.YtpgbafllipigfaaBlk
namespace Go.Proofs.Ytpgbafllipigfaa
open Go.RowKit

theorem s54 : (Try.prog.info? 54).map (·.size) = some 19 := by kernel_rfl
def ld54 (a : Addr) : Sem Value := loadVar 54 a
@[go_sem ↓ high] theorem ld54_eq (a : Addr) : loadVar 54 a = ld54 a := rfl
@[go_sem] theorem run_ld54 (w : World) (g : Nat) (h : (blkD w g).size = 19) : (ld54 ⟨g, 0, none⟩).run Try.prog w = .ok (.agg (blkD w g)) w :=
  run_load_blk w g 18 54 _ Try.underlying54 rfl s54 h
def st54 (a : Addr) (v : Value) : Sem Unit := storeVar 54 a v
@[go_sem ↓ high] theorem st54_eq (a : Addr) (v : Value) : storeVar 54 a v = st54 a v := rfl
@[go_sem] theorem run_st54 (w : World) (g : Nat) (cells : Array Value) (h : (blkD w g).size = 19) (hs : cells.size = 19) (h1 : cells.all (·.oneCell') = true) :
    (st54 ⟨g, 0, none⟩ (.agg cells)).run Try.prog w = .ok () (w.setRow g cells) :=
  run_store_blk w g 18 54 cells s54 h hs h1
theorem s51 : (Try.prog.info? 51).map (·.size) = some 3 := by kernel_rfl
def ld51 (a : Addr) : Sem Value := loadVar 51 a
@[go_sem ↓ high] theorem ld51_eq (a : Addr) : loadVar 51 a = ld51 a := rfl
@[go_sem] theorem run_ld51 (w : World) (g : Nat) (h : (blkD w g).size = 3) : (ld51 ⟨g, 0, none⟩).run Try.prog w = .ok (.agg (blkD w g)) w :=
  run_load_blk w g 2 51 _ Try.underlying51 rfl s51 h
def st51 (a : Addr) (v : Value) : Sem Unit := storeVar 51 a v
@[go_sem ↓ high] theorem st51_eq (a : Addr) (v : Value) : storeVar 51 a v = st51 a v := rfl
@[go_sem] theorem run_st51 (w : World) (g : Nat) (cells : Array Value) (h : (blkD w g).size = 3) (hs : cells.size = 3) (h1 : cells.all (·.oneCell') = true) :
    (st51 ⟨g, 0, none⟩ (.agg cells)).run Try.prog w = .ok () (w.setRow g cells) :=
  run_store_blk w g 2 51 cells s51 h hs h1
theorem s45 : (Try.prog.info? 45).map (·.size) = some 16 := by kernel_rfl
def ld45 (a : Addr) : Sem Value := loadVar 45 a
@[go_sem ↓ high] theorem ld45_eq (a : Addr) : loadVar 45 a = ld45 a := rfl
@[go_sem] theorem run_ld45 (w : World) (g : Nat) (h : (blkD w g).size = 16) : (ld45 ⟨g, 0, none⟩).run Try.prog w = .ok (.agg (blkD w g)) w :=
  run_load_blk w g 15 45 _ Try.underlying45 rfl s45 h
def st45 (a : Addr) (v : Value) : Sem Unit := storeVar 45 a v
@[go_sem ↓ high] theorem st45_eq (a : Addr) (v : Value) : storeVar 45 a v = st45 a v := rfl
@[go_sem] theorem run_st45 (w : World) (g : Nat) (cells : Array Value) (h : (blkD w g).size = 16) (hs : cells.size = 16) (h1 : cells.all (·.oneCell') = true) :
    (st45 ⟨g, 0, none⟩ (.agg cells)).run Try.prog w = .ok () (w.setRow g cells) :=
  run_store_blk w g 15 45 cells s45 h hs h1
attribute [go_sem] Value.oneCell' Value.cells

end Go.Proofs.Ytpgbafllipigfaa
