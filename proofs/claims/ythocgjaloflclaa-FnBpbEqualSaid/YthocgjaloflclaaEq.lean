/- Equality of the structs, as one Bool. -/
import Derived.Test.YthocgjaloflclaaInst
namespace Go.Proofs.Ythocgjaloflclaa
open Go.RowKit

theorem eqF {P : Program} {w : World} {d : Nat} {xs ys : Array Value} {f : Field} {fs : List Field} {a b : Value} {r B : Bool} (hn : f.name ≠ "_") (ha : xs[f.offset]? = some a) (hb : ys[f.offset]? = some b)
    (hp : P.plainKey f.type = true) (he : (Op.equalIn d f.type a b).run P w = .ok r w) (ih : (Op.eqFields d xs ys fs).run P w = .ok B w) :
    (Op.eqFields d xs ys (f :: fs)).run P w = .ok (r && B) w := by
  simp only [Op.eqFields, hn, ne_eq, not_false_eq_true, if_true, Sem.run_bind, run_part_plain w hp ha, run_part_plain w hp hb, he, Result.andThen_ok]
  cases r
  · simp
  · simpa using ih
theorem eqNil {P : Program} {w : World} {d : Nat} {xs ys : Array Value} : (Op.eqFields d xs ys []).run P w = .ok true w := by simp [Op.eqFields]
theorem plain47 : Try.prog.plainKey 47 = true := by kernel_rfl
theorem plain5 : Try.prog.plainKey 5 = true := by kernel_rfl
theorem plain44 : Try.prog.plainKey 44 = true := by kernel_rfl
theorem plain3 : Try.prog.plainKey 3 = true := by kernel_rfl
theorem plain9 : Try.prog.plainKey 9 = true := by kernel_rfl
theorem flds49 : (Try.prog.fieldsOf 49).toList = [⟨ "BytesPerSector", 47, 0, false, "", "", 0⟩, ⟨ "SectorsPerCluster", 5, 1, false, "", "", 2⟩, ⟨ "ReservedSectors", 44, 2, false, "", "", 4⟩, ⟨ "FatCount", 5, 3, false, "", "", 6⟩, ⟨ "RootDirectoryEntries", 44, 4, false, "", "", 8⟩, ⟨ "TotalSectors", 44, 5, false, "", "", 10⟩, ⟨ "MediaType", 5, 6, false, "", "", 12⟩, ⟨ "SectorsPerFat", 44, 7, false, "", "", 14⟩] := by kernel_rfl
theorem held49 : Try.prog.stoodInHeld 49 = false := by kernel_rfl
theorem str49 : Try.prog.underlying 49 = some (.struct (Try.prog.fieldsOf 49)) := by kernel_rfl
/-- all fields are the same -/
def eq8 (x1 x2 x3 x4 x5 x6 x7 x8 y1 y2 y3 y4 y5 y6 y7 y8 : Int) : Bool := x1 == y1 && (x2 == y2 && (x3 == y3 && (x4 == y4 && (x5 == y5 && (x6 == y6 && (x7 == y7 && (x8 == y8 && true)))))))
@[go_sem ↓ high] theorem eq49 (w : World) (x1 x2 x3 x4 x5 x6 x7 x8 y1 y2 y3 y4 y5 y6 y7 y8 : Int) :
    (Op.equalIn 10000 49 (.agg #[.int .u16 x1, .int .u8 x2, .int .u16 x3, .int .u8 x4, .int .u16 x5, .int .u16 x6, .int .u8 x7, .int .u16 x8]) (.agg #[.int .u16 y1, .int .u8 y2, .int .u16 y3, .int .u8 y4, .int .u16 y5, .int .u16 y6, .int .u8 y7, .int .u16 y8])).run Try.prog w = .ok (eq8 x1 x2 x3 x4 x5 x6 x7 x8 y1 y2 y3 y4 y5 y6 y7 y8) w := by
  rw [show (10000 : Nat) = 9999 + 1 from rfl, run_equalIn_struct w 9999 49 _ _ str49 held49, flds49]
  exact (eqF (by decide) rfl rfl plain47 (run_equalIn_int _ _ _ _ _ _ _ Try.underlying47) (eqF (by decide) rfl rfl plain5 (run_equalIn_int _ _ _ _ _ _ _ Try.underlying5) (eqF (by decide) rfl rfl plain44 (run_equalIn_int _ _ _ _ _ _ _ Try.underlying44) (eqF (by decide) rfl rfl plain5 (run_equalIn_int _ _ _ _ _ _ _ Try.underlying5) (eqF (by decide) rfl rfl plain44 (run_equalIn_int _ _ _ _ _ _ _ Try.underlying44) (eqF (by decide) rfl rfl plain44 (run_equalIn_int _ _ _ _ _ _ _ Try.underlying44) (eqF (by decide) rfl rfl plain5 (run_equalIn_int _ _ _ _ _ _ _ Try.underlying5) (eqF (by decide) rfl rfl plain44 (run_equalIn_int _ _ _ _ _ _ _ Try.underlying44) eqNil))))))))
theorem flds25 : (Try.prog.fieldsOf 25).toList = [⟨ "Kind", 3, 0, false, "", "", 0⟩, ⟨ "Sector", 3, 1, false, "", "", 8⟩, ⟨ "Cluster", 3, 2, false, "", "", 16⟩, ⟨ "Reserved", 3, 3, false, "", "", 24⟩, ⟨ "Fats", 3, 4, false, "", "", 32⟩, ⟨ "Root", 3, 5, false, "", "", 40⟩, ⟨ "Total", 3, 6, false, "", "", 48⟩, ⟨ "Media", 3, 7, false, "", "", 56⟩, ⟨ "PerFat", 3, 8, false, "", "", 64⟩, ⟨ "Track", 3, 9, false, "", "", 72⟩, ⟨ "Heads", 3, 10, false, "", "", 80⟩, ⟨ "Hidden", 3, 11, false, "", "", 88⟩, ⟨ "Total32", 3, 12, false, "", "", 96⟩, ⟨ "Drive", 3, 13, false, "", "", 104⟩, ⟨ "Flags", 3, 14, false, "", "", 112⟩, ⟨ "Signature", 3, 15, false, "", "", 120⟩, ⟨ "Serial", 3, 16, false, "", "", 128⟩, ⟨ "Label", 9, 17, false, "", "", 136⟩, ⟨ "Type", 9, 18, false, "", "", 152⟩] := by kernel_rfl
theorem held25 : Try.prog.stoodInHeld 25 = false := by kernel_rfl
theorem str25 : Try.prog.underlying 25 = some (.struct (Try.prog.fieldsOf 25)) := by kernel_rfl
/-- all fields are the same -/
def eq19 (x0 x1 x2 x3 x4 x5 x6 x7 x8 x9 x10 x11 x12 x13 x14 x15 x16 y0 y1 y2 y3 y4 y5 y6 y7 y8 y9 y10 y11 y12 y13 y14 y15 y16 : Int) (x17 x18 y17 y18 : ByteArray) : Bool := x0 == y0 && (x1 == y1 && (x2 == y2 && (x3 == y3 && (x4 == y4 && (x5 == y5 && (x6 == y6 && (x7 == y7 && (x8 == y8 && (x9 == y9 && (x10 == y10 && (x11 == y11 && (x12 == y12 && (x13 == y13 && (x14 == y14 && (x15 == y15 && (x16 == y16 && ((x17.toList == y17.toList) && ((x18.toList == y18.toList) && true))))))))))))))))))
@[go_sem ↓ high] theorem eq25 (w : World) (x0 x1 x2 x3 x4 x5 x6 x7 x8 x9 x10 x11 x12 x13 x14 x15 x16 y0 y1 y2 y3 y4 y5 y6 y7 y8 y9 y10 y11 y12 y13 y14 y15 y16 : Int) (x17 x18 y17 y18 : ByteArray) :
    (Op.equalIn 10000 25 (.agg #[.int .i64 x0, .int .i64 x1, .int .i64 x2, .int .i64 x3, .int .i64 x4, .int .i64 x5, .int .i64 x6, .int .i64 x7, .int .i64 x8, .int .i64 x9, .int .i64 x10, .int .i64 x11, .int .i64 x12, .int .i64 x13, .int .i64 x14, .int .i64 x15, .int .i64 x16, .string x17, .string x18]) (.agg #[.int .i64 y0, .int .i64 y1, .int .i64 y2, .int .i64 y3, .int .i64 y4, .int .i64 y5, .int .i64 y6, .int .i64 y7, .int .i64 y8, .int .i64 y9, .int .i64 y10, .int .i64 y11, .int .i64 y12, .int .i64 y13, .int .i64 y14, .int .i64 y15, .int .i64 y16, .string y17, .string y18])).run Try.prog w = .ok (eq19 x0 x1 x2 x3 x4 x5 x6 x7 x8 x9 x10 x11 x12 x13 x14 x15 x16 y0 y1 y2 y3 y4 y5 y6 y7 y8 y9 y10 y11 y12 y13 y14 y15 y16 x17 x18 y17 y18) w := by
  rw [show (10000 : Nat) = 9999 + 1 from rfl, run_equalIn_struct w 9999 25 _ _ str25 held25, flds25]
  exact (eqF (by decide) rfl rfl plain3 (run_equalIn_int _ _ _ _ _ _ _ Try.underlying3) (eqF (by decide) rfl rfl plain3 (run_equalIn_int _ _ _ _ _ _ _ Try.underlying3) (eqF (by decide) rfl rfl plain3 (run_equalIn_int _ _ _ _ _ _ _ Try.underlying3) (eqF (by decide) rfl rfl plain3 (run_equalIn_int _ _ _ _ _ _ _ Try.underlying3) (eqF (by decide) rfl rfl plain3 (run_equalIn_int _ _ _ _ _ _ _ Try.underlying3) (eqF (by decide) rfl rfl plain3 (run_equalIn_int _ _ _ _ _ _ _ Try.underlying3) (eqF (by decide) rfl rfl plain3 (run_equalIn_int _ _ _ _ _ _ _ Try.underlying3) (eqF (by decide) rfl rfl plain3 (run_equalIn_int _ _ _ _ _ _ _ Try.underlying3) (eqF (by decide) rfl rfl plain3 (run_equalIn_int _ _ _ _ _ _ _ Try.underlying3) (eqF (by decide) rfl rfl plain3 (run_equalIn_int _ _ _ _ _ _ _ Try.underlying3) (eqF (by decide) rfl rfl plain3 (run_equalIn_int _ _ _ _ _ _ _ Try.underlying3) (eqF (by decide) rfl rfl plain3 (run_equalIn_int _ _ _ _ _ _ _ Try.underlying3) (eqF (by decide) rfl rfl plain3 (run_equalIn_int _ _ _ _ _ _ _ Try.underlying3) (eqF (by decide) rfl rfl plain3 (run_equalIn_int _ _ _ _ _ _ _ Try.underlying3) (eqF (by decide) rfl rfl plain3 (run_equalIn_int _ _ _ _ _ _ _ Try.underlying3) (eqF (by decide) rfl rfl plain3 (run_equalIn_int _ _ _ _ _ _ _ Try.underlying3) (eqF (by decide) rfl rfl plain3 (run_equalIn_int _ _ _ _ _ _ _ Try.underlying3) (eqF (by decide) rfl rfl plain9 (run_equalIn_string _ _ _ _ _ Try.underlying9) (eqF (by decide) rfl rfl plain9 (run_equalIn_string _ _ _ _ _ Try.underlying9) eqNil)))))))))))))))))))
end Go.Proofs.Ythocgjaloflclaa
