/-
  No cell of these rows narrows 'for every input' (looked for: loops, veiled, ifaces, maps, wideKeys, modest, calm, conditions, laid).
  DERIVED. THE GIVEN ROWS OF THIS SEAT. 2 by the template 'for every input the law returns true; each argument reads behind the call as it read before'; 0 by the template 'total and deterministic' (their statements: YtpgbafllipigfaaTotals.lean).
  GIVEN WITH THE SEED: the statements are not yours to turn. If you find one false, say at which input.
  Laid BY PROGRAM, IN A SANDBOX (cutbox-rows.mjs): the forced cells as the released guide's own fill.sh prints them over the translation d90a023d18afe5de… (all of the seat's roots in one cut). By AI agents, Wed Nov 11 2026. No macro, syntax, notation, axiom, sorry.
-/
import Derived.Test.YtpgbafllipigfaaChecked
import GoSem.Claim
import GoSem.ClaimJoined
import GoSem.ClaimMapViews
import Derived.JoinedTies
import Derived.KernelRfl
namespace Go.Proofs.Ytpgbafllipigfaa
/- THE CELL 'sum', in the pinned program and in every row, IS THE sha256 OF THE DUMP (.gsa) THAT YtpgbafllipigfaaProg.lean LOADS. Nothing in Lean hashes anything: it is a label: what it is worth is what the hold of that sum in a sandbox is worth. -/
noncomputable def Try.pinned : Pinned := { name := "ytpgbafllipigfaa", sum := "d90a023d18afe5dedffc95a3fcde26de6c7750beda66c47d73cbc0867dcd5407", checked := Try.checked }
namespace Rows
def none {H : Type} : Left H := { results := [], args := [] }

/-- 'laws.FnJournalNew': WHATEVER THE INPUT: true; the input reads as it did. -/
def fnJournalNewSpec : ChangeSpec := { name := "fnJournalNew", fn := fun _ => fun
  | [d1, d2] => { results := [.lit (.bool true)], args := [d1, d2] }
  | _ => none }
def fnJournalNewRow : OpenClaim := { program := "ytpgbafllipigfaa", sum := "d90a023d18afe5dedffc95a3fcde26de6c7750beda66c47d73cbc0867dcd5407", func := "given.example/pub-strongback/laws.FnJournalNew", spec := "fnJournalNew", named := ["encoding/binary.BigEndian"], apart := false }
def FnJournalNewSaid : Prop := fnJournalNewRow.holds Try.pinned (OpenSpec.ofChange fnJournalNewSpec)

/-- ITS FALSE NEIGHBOUR: 'it returns false'. Refute it at one input. -/
def fnJournalNewWrong : ChangeSpec := { name := "fnJournalNew", fn := fun _ => fun
  | [d1, d2] => { results := [.lit (.bool false)], args := [d1, d2] }
  | _ => none }
def FnJournalNewWrongFalsely : Prop := fnJournalNewRow.holds Try.pinned (OpenSpec.ofChange fnJournalNewWrong)

/-- 'laws.FnJournalTells': WHATEVER THE INPUT: true; the input reads as it did. -/
def fnJournalTellsSpec : ChangeSpec := { name := "fnJournalTells", fn := fun _ => fun
  | [d1, d2, d3, d4, d5, d6] => { results := [.lit (.bool true)], args := [d1, d2, d3, d4, d5, d6] }
  | _ => none }
def fnJournalTellsRow : OpenClaim := { program := "ytpgbafllipigfaa", sum := "d90a023d18afe5dedffc95a3fcde26de6c7750beda66c47d73cbc0867dcd5407", func := "given.example/pub-strongback/laws.FnJournalTells", spec := "fnJournalTells", named := ["encoding/binary.BigEndian"], apart := false }
def FnJournalTellsSaid : Prop := fnJournalTellsRow.holds Try.pinned (OpenSpec.ofChange fnJournalTellsSpec)

/-- ITS FALSE NEIGHBOUR: 'it returns false'. Refute it at one input. -/
def fnJournalTellsWrong : ChangeSpec := { name := "fnJournalTells", fn := fun _ => fun
  | [d1, d2, d3, d4, d5, d6] => { results := [.lit (.bool false)], args := [d1, d2, d3, d4, d5, d6] }
  | _ => none }
def FnJournalTellsWrongFalsely : Prop := fnJournalTellsRow.holds Try.pinned (OpenSpec.ofChange fnJournalTellsWrong)

/- THE SECOND FORM. 'bulk': how many values and letters a reading holds, each counted each time it is reached (what is shared counts as often as it is met; a slice's spare places count too). A statement '..UptoSaid' is the law's where the arguments, and the package variables that the reading takes, are together of bulk at most 1048576: NARROWER than '..Said'. Prove '..Said' where nothing that the law and all that it calls make is longer than what came in: it says more and counts as full. Else prove '..UptoSaid'. A law counts once. -/
mutual
def uptoBulk {H : Type} : DataW H → Nat
  | .lit (.string bytes) => bytes.length + 1
  | .lit _ => 1
  | .nil => 1
  | .ptr d => uptoBulk d + 1
  | .slice elems spare => uptoBulkAll elems + uptoBulkAll spare + 1
  | .agg parts => uptoBulkAll parts + 1
  | .iface _ d => uptoBulk d + 1
  | .map entries => uptoBulkEntries entries + 1
  | .held _ => 1
def uptoBulkAll {H : Type} : List (DataW H) → Nat
  | [] => 0
  | d :: r => uptoBulk d + uptoBulkAll r
def uptoBulkEntries {H : Type} : List (Lit × DataW H) → Nat
  | [] => 0
  | x :: r => uptoBulkEntry x + uptoBulkEntries r
def uptoBulkEntry {H : Type} : Lit × DataW H → Nat
  | (.string bytes, d) => bytes.length + uptoBulk d + 1
  | (_, d) => uptoBulk d + 1
 end
def uptoSmall : (H : Type) → List (DataW H) → Bool := fun _ ds => decide (uptoBulkAll ds ≤ 1048576)
def OpenSpec.upto (s : _root_.Go.ChangeSpec) : _root_.Go.OpenSpec := { _root_.Go.OpenSpec.ofChange s with cond := some uptoSmall }

/-- 'laws.FnJournalNew', WHERE WHAT IT READS IS OF BULK AT MOST 1048576: true; the input reads as it did. -/
def fnJournalNewUptoRow : OpenClaim := { program := "ytpgbafllipigfaa", sum := "d90a023d18afe5dedffc95a3fcde26de6c7750beda66c47d73cbc0867dcd5407", func := "given.example/pub-strongback/laws.FnJournalNew", spec := "fnJournalNew", named := ["encoding/binary.BigEndian"], apart := false, narrowed := true }
def FnJournalNewUptoSaid : Prop := fnJournalNewUptoRow.holds Try.pinned (OpenSpec.upto fnJournalNewSpec)

/-- 'laws.FnJournalTells', WHERE WHAT IT READS IS OF BULK AT MOST 1048576: true; the input reads as it did. -/
def fnJournalTellsUptoRow : OpenClaim := { program := "ytpgbafllipigfaa", sum := "d90a023d18afe5dedffc95a3fcde26de6c7750beda66c47d73cbc0867dcd5407", func := "given.example/pub-strongback/laws.FnJournalTells", spec := "fnJournalTells", named := ["encoding/binary.BigEndian"], apart := false, narrowed := true }
def FnJournalTellsUptoSaid : Prop := fnJournalTellsUptoRow.holds Try.pinned (OpenSpec.upto fnJournalTellsSpec)

end Rows
end Go.Proofs.Ytpgbafllipigfaa
