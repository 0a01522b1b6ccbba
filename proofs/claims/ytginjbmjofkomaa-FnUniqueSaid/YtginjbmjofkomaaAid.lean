/- Small lemmas for the walks: places of new blocks. -/
import Derived.Test.YtginjbmjofkomaaRows
import Derived.WalkKit
import Derived.WalkSpells
import Derived.WalkLawsBesides
import Derived.Deep.QuietTactic
import Derived.BigQuiet
import Derived.Lib.Hide
import Derived.ChangeKeysEq
namespace Go.Proofs.Ytginjbmjofkomaa
open Go.RowKit

@[go_sem] theorem lt_add2 (n : Nat) : (n < n + 1 + 1) = True := by simp; omega
@[go_sem] theorem lt_add3 (n : Nat) : (n < n + 1 + 1 + 1) = True := by simp; omega
@[go_sem] theorem lt_add4 (n : Nat) : (n < n + 1 + 1 + 1 + 1) = True := by simp; omega
@[go_sem] theorem lt_add5 (n : Nat) : (n < n + 1 + 1 + 1 + 1 + 1) = True := by simp; omega
@[go_sem] theorem lt_add6 (n : Nat) : (n < n + 1 + 1 + 1 + 1 + 1 + 1) = True := by simp; omega

theorem bcell {W w1 : World} (hb : Below W.heap.size W w1) :
    (∀ b o, b < W.heap.size → w1.cell? ⟨b, o, none⟩ = W.cell? ⟨b, o, none⟩) ∧ (∀ b o, b < W.heap.size → w1.frozen? ⟨b, o, none⟩ = W.frozen? ⟨b, o, none⟩) :=
  ⟨fun b o h => hb.cell (p := ⟨b, o, none⟩) h, fun b o h => hb.frozen (p := ⟨b, o, none⟩) h⟩

theorem plain26 : Try.prog.plainKey 26 = true := by kernel_rfl
theorem cells26 : Try.prog.cellsOf 26 = 1 := by kernel_rfl
theorem some26 : (Try.prog.info? 26).isSome = true := by kernel_rfl
theorem eq4 (w : World) (x0 x1 x2 x3 y0 y1 y2 y3 : Int) :
   (Op.equalIn 10000 27 (.agg #[.int .u32 x0, .int .u32 x1, .int .u32 x2, .int .u32 x3]) (.agg #[.int .u32 y0, .int .u32 y1, .int .u32 y2, .int .u32 y3])).run Try.prog w = .ok (x0 == y0 && (x1 == y1 && (x2 == y2 && x3 == y3))) w := by
  obtain ⟨i, hi⟩ := Option.isSome_iff_exists.1 some26
  rw [show (10000 : Nat) = 9999 + 1 from rfl, run_equalIn_array w 9999 _ _ Try.underlying27 hi, cells26]
  have hr : List.range 4 = [0, 1, 2, 3] := rfl
  rw [hr, show (9999 : Nat) = 9998 + 1 from rfl]
  have p := fun (xs : Array Value) (off : Nat) (v : Value) (h : xs[off]? = some v) => run_part_plain (P := Try.prog) w plain26 h
  simp only [Op.eqItems, Sem.run_bind]
  rw [p _ _ (.int .u32 x0) rfl, Result.andThen_ok, p _ _ (.int .u32 y0) rfl, Result.andThen_ok, run_equalIn_int _ _ _ _ _ _ _ Try.underlying26, Result.andThen_ok]
  cases h0 : (x0 == y0)
  · simp
  simp only [Bool.not_true, Bool.false_eq_true, if_false, Sem.run_bind]
  rw [p _ _ (.int .u32 x1) rfl, Result.andThen_ok, p _ _ (.int .u32 y1) rfl, Result.andThen_ok, run_equalIn_int _ _ _ _ _ _ _ Try.underlying26, Result.andThen_ok]
  cases h1 : (x1 == y1)
  · simp
  simp only [Bool.not_true, Bool.false_eq_true, if_false, Sem.run_bind]
  rw [p _ _ (.int .u32 x2) rfl, Result.andThen_ok, p _ _ (.int .u32 y2) rfl, Result.andThen_ok, run_equalIn_int _ _ _ _ _ _ _ Try.underlying26, Result.andThen_ok]
  cases h2 : (x2 == y2)
  · simp
  simp only [Bool.not_true, Bool.false_eq_true, if_false, Sem.run_bind]
  rw [p _ _ (.int .u32 x3) rfl, Result.andThen_ok, p _ _ (.int .u32 y3) rfl, Result.andThen_ok, run_equalIn_int _ _ _ _ _ _ _ Try.underlying26, Result.andThen_ok]
  cases h3 : (x3 == y3) <;> simp
@[go_sem] theorem eq4_self (w : World) (x0 x1 x2 x3 : Int) :
   (Op.equalIn 10000 27 (.agg #[.int .u32 x0, .int .u32 x1, .int .u32 x2, .int .u32 x3]) (.agg #[.int .u32 x0, .int .u32 x1, .int .u32 x2, .int .u32 x3])).run Try.prog w = .ok true w := by
  rw [eq4]; simp

end Go.Proofs.Ytginjbmjofkomaa
