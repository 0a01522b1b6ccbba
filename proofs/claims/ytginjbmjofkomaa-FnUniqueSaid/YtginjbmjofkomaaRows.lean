/-
  No cell of these rows narrows 'for every input' (looked for: loops, veiled, ifaces, maps, wideKeys, modest, calm, conditions, laid).
  DERIVED. THE GIVEN ROWS OF THIS SEAT. 3 by the template 'for every input the law returns true; each argument reads behind the call as it read before'; 0 by the template 'total and deterministic' (their statements: YtginjbmjofkomaaTotals.lean).
  GIVEN WITH THE SEED: the statements are not yours to turn. If you find one false, say at which input.
  Laid BY PROGRAM, IN A SANDBOX (cutbox-rows.mjs): the forced cells as the released guide's own fill.sh prints them over the translation 0525d2e16b16234c… (all of the seat's roots in one cut). By AI agents, Wed Nov 11 2026. No macro, syntax, notation, axiom, sorry.
-/
import Derived.Test.YtginjbmjofkomaaChecked
import GoSem.Claim
import GoSem.ClaimJoined
import GoSem.ClaimMapViews
import Derived.JoinedTies
import Derived.KernelRfl
namespace Go.Proofs.Ytginjbmjofkomaa
/- THE CELL 'sum', in the pinned program and in every row, IS THE sha256 OF THE DUMP (.gsa) THAT YtginjbmjofkomaaProg.lean LOADS. Nothing in Lean hashes anything: it is a label: what it is worth is what the hold of that sum in a sandbox is worth. -/
noncomputable def Try.pinned : Pinned := { name := "ytginjbmjofkomaa", sum := "0525d2e16b16234c3b81699298b8f71bcce0daa0d300b04a98dee91e680840a4", checked := Try.checked }
namespace Rows
def none {H : Type} : Left H := { results := [], args := [] }

/-- 'laws.FnUnique': WHATEVER THE INPUT: true; the input reads as it did. -/
def fnUniqueSpec : ChangeSpec := { name := "fnUnique", fn := fun _ => fun
  | [d] => { results := [.lit (.bool true)], args := [d] }
  | _ => none }
def fnUniqueRow : OpenClaim := { program := "ytginjbmjofkomaa", sum := "0525d2e16b16234c3b81699298b8f71bcce0daa0d300b04a98dee91e680840a4", func := "given.example/pub-strongback/laws.FnUnique", spec := "fnUnique", apart := false }
def FnUniqueSaid : Prop := fnUniqueRow.holds Try.pinned (OpenSpec.ofChange fnUniqueSpec)

/-- ITS FALSE NEIGHBOUR: 'it returns false'. Refute it at one input. -/
def fnUniqueWrong : ChangeSpec := { name := "fnUnique", fn := fun _ => fun
  | [d] => { results := [.lit (.bool false)], args := [d] }
  | _ => none }
def FnUniqueWrongFalsely : Prop := fnUniqueRow.holds Try.pinned (OpenSpec.ofChange fnUniqueWrong)

/-- 'laws.FnTea': WHATEVER THE INPUT: true; the input reads as it did. -/
def fnTeaSpec : ChangeSpec := { name := "fnTea", fn := fun _ => fun
  | [d1, d2] => { results := [.lit (.bool true)], args := [d1, d2] }
  | _ => none }
def fnTeaRow : OpenClaim := { program := "ytginjbmjofkomaa", sum := "0525d2e16b16234c3b81699298b8f71bcce0daa0d300b04a98dee91e680840a4", func := "given.example/pub-strongback/laws.FnTea", spec := "fnTea", apart := false }
def FnTeaSaid : Prop := fnTeaRow.holds Try.pinned (OpenSpec.ofChange fnTeaSpec)

/-- ITS FALSE NEIGHBOUR: 'it returns false'. Refute it at one input. -/
def fnTeaWrong : ChangeSpec := { name := "fnTea", fn := fun _ => fun
  | [d1, d2] => { results := [.lit (.bool false)], args := [d1, d2] }
  | _ => none }
def FnTeaWrongFalsely : Prop := fnTeaRow.holds Try.pinned (OpenSpec.ofChange fnTeaWrong)

/-- 'laws.FnHalfMd4': WHATEVER THE INPUT: true; the input reads as it did. -/
def fnHalfMd4Spec : ChangeSpec := { name := "fnHalfMd4", fn := fun _ => fun
  | [d1, d2] => { results := [.lit (.bool true)], args := [d1, d2] }
  | _ => none }
def fnHalfMd4Row : OpenClaim := { program := "ytginjbmjofkomaa", sum := "0525d2e16b16234c3b81699298b8f71bcce0daa0d300b04a98dee91e680840a4", func := "given.example/pub-strongback/laws.FnHalfMd4", spec := "fnHalfMd4", unfollowed := true, recurses := true, apart := false }
def FnHalfMd4Said : Prop := fnHalfMd4Row.holds Try.pinned (OpenSpec.ofChange fnHalfMd4Spec)

/-- ITS FALSE NEIGHBOUR: 'it returns false'. Refute it at one input. -/
def fnHalfMd4Wrong : ChangeSpec := { name := "fnHalfMd4", fn := fun _ => fun
  | [d1, d2] => { results := [.lit (.bool false)], args := [d1, d2] }
  | _ => none }
def FnHalfMd4WrongFalsely : Prop := fnHalfMd4Row.holds Try.pinned (OpenSpec.ofChange fnHalfMd4Wrong)

/- THE SECOND FORM. 'bulk': how many values and letters a reading holds, each counted each time it is reached (what is shared counts as often as it is met; a slice's spare places count too). A statement '..UptoSaid' is the law's where the arguments, and the package variables that the reading takes, are together of bulk at most 1048576: NARROWER than '..Said'. Prove '..Said' where nothing that the law and all that it calls make is longer than what came in: it says more and counts as full. Else prove '..UptoSaid'. A law counts once. -/
mutual
def uptoBulk {H : Type} : DataW H → Nat
  | .lit (.string bytes) => bytes.length + 1
  | .lit _ => 1
  | .nil => 1
  | .ptr d => uptoBulk d + 1
  | .slice elems spare => uptoBulkAll elems + uptoBulkAll spare + 1
  | .agg parts => uptoBulkAll parts + 1
  | .iface _ d => uptoBulk d + 1
  | .map entries => uptoBulkEntries entries + 1
  | .held _ => 1
def uptoBulkAll {H : Type} : List (DataW H) → Nat
  | [] => 0
  | d :: r => uptoBulk d + uptoBulkAll r
def uptoBulkEntries {H : Type} : List (Lit × DataW H) → Nat
  | [] => 0
  | x :: r => uptoBulkEntry x + uptoBulkEntries r
def uptoBulkEntry {H : Type} : Lit × DataW H → Nat
  | (.string bytes, d) => bytes.length + uptoBulk d + 1
  | (_, d) => uptoBulk d + 1
 end
def uptoSmall : (H : Type) → List (DataW H) → Bool := fun _ ds => decide (uptoBulkAll ds ≤ 1048576)
def OpenSpec.upto (s : _root_.Go.ChangeSpec) : _root_.Go.OpenSpec := { _root_.Go.OpenSpec.ofChange s with cond := some uptoSmall }

/-- 'laws.FnUnique', WHERE WHAT IT READS IS OF BULK AT MOST 1048576: true; the input reads as it did. -/
def fnUniqueUptoRow : OpenClaim := { program := "ytginjbmjofkomaa", sum := "0525d2e16b16234c3b81699298b8f71bcce0daa0d300b04a98dee91e680840a4", func := "given.example/pub-strongback/laws.FnUnique", spec := "fnUnique", apart := false, narrowed := true }
def FnUniqueUptoSaid : Prop := fnUniqueUptoRow.holds Try.pinned (OpenSpec.upto fnUniqueSpec)

/-- 'laws.FnTea', WHERE WHAT IT READS IS OF BULK AT MOST 1048576: true; the input reads as it did. -/
def fnTeaUptoRow : OpenClaim := { program := "ytginjbmjofkomaa", sum := "0525d2e16b16234c3b81699298b8f71bcce0daa0d300b04a98dee91e680840a4", func := "given.example/pub-strongback/laws.FnTea", spec := "fnTea", apart := false, narrowed := true }
def FnTeaUptoSaid : Prop := fnTeaUptoRow.holds Try.pinned (OpenSpec.upto fnTeaSpec)

/-- 'laws.FnHalfMd4', WHERE WHAT IT READS IS OF BULK AT MOST 1048576: true; the input reads as it did. -/
def fnHalfMd4UptoRow : OpenClaim := { program := "ytginjbmjofkomaa", sum := "0525d2e16b16234c3b81699298b8f71bcce0daa0d300b04a98dee91e680840a4", func := "given.example/pub-strongback/laws.FnHalfMd4", spec := "fnHalfMd4", unfollowed := true, recurses := true, apart := false, narrowed := true }
def FnHalfMd4UptoSaid : Prop := fnHalfMd4UptoRow.holds Try.pinned (OpenSpec.upto fnHalfMd4Spec)

end Rows
end Go.Proofs.Ytginjbmjofkomaa
