/-
  No cell of these rows narrows 'for every input' (looked for: loops, veiled, ifaces, maps, wideKeys, modest, calm, conditions, laid).
  DERIVED. THE GIVEN ROWS OF THIS SEAT. 2 by the template 'for every input the law returns true; each argument reads behind the call as it read before'; 0 by the template 'total and deterministic' (their statements: Qxb6613280aTotals.lean).
  GIVEN WITH THE SEED: the statements are not yours to turn. If you find one false, say at which input.
  Laid BY PROGRAM, IN A SANDBOX (cutbox-rows.mjs): the forced cells as the released guide's own fill.sh prints them over the translation d5404a598164a9da… (all of the seat's roots in one cut). By AI agents, Wed Nov 11 2026. No macro, syntax, notation, axiom, sorry.
-/
import Derived.Test.Qxb6613280aChecked
import GoSem.Claim
import GoSem.ClaimJoined
import GoSem.ClaimMapViews
import Derived.JoinedTies
import Derived.KernelRfl
namespace Go.Proofs.Qxb6613280a
/- THE CELL 'sum', in the pinned program and in every row, IS THE sha256 OF THE DUMP (.gsa) THAT Qxb6613280aProg.lean LOADS. Nothing in Lean hashes anything: it is a label: what it is worth is what the hold of that sum in a sandbox is worth. -/
noncomputable def Try.pinned : Pinned := { name := "qxb6613280a", sum := "d5404a598164a9da887eaf232cecbd9d1aae93a5d026a56a3cfe470f67c0acdb", checked := Try.checked }
namespace Rows
def none {H : Type} : Left H := { results := [], args := [] }

/-- 'zzlaws_internal_ecmaregexp_b1.FnNewECMAParserReadsCodePointsAndJoins': WHATEVER THE INPUT: true; the input reads as it did. -/
def fnNewECMAParserReadsCodePointsAndJoinsSpec : ChangeSpec := { name := "fnNewECMAParserReadsCodePointsAndJoins", fn := fun _ => fun
  | [d1, d2, d3] => { results := [.lit (.bool true)], args := [d1, d2, d3] }
  | _ => none }
def fnNewECMAParserReadsCodePointsAndJoinsRow : OpenClaim := { program := "qxb6613280a", sum := "d5404a598164a9da887eaf232cecbd9d1aae93a5d026a56a3cfe470f67c0acdb", func := "example.com/tandem-intake/tandem-intake/zzlaws_internal_ecmaregexp_b1.FnNewECMAParserReadsCodePointsAndJoins", spec := "fnNewECMAParserReadsCodePointsAndJoins", inPlace := ["internal/abi.NoEscape"], apart := false }
def FnNewECMAParserReadsCodePointsAndJoinsSaid : Prop := fnNewECMAParserReadsCodePointsAndJoinsRow.holds Try.pinned (OpenSpec.ofChange fnNewECMAParserReadsCodePointsAndJoinsSpec)

/-- ITS FALSE NEIGHBOUR: 'it returns false'. Refute it at one input. -/
def fnNewECMAParserReadsCodePointsAndJoinsWrong : ChangeSpec := { name := "fnNewECMAParserReadsCodePointsAndJoins", fn := fun _ => fun
  | [d1, d2, d3] => { results := [.lit (.bool false)], args := [d1, d2, d3] }
  | _ => none }
def FnNewECMAParserReadsCodePointsAndJoinsWrongFalsely : Prop := fnNewECMAParserReadsCodePointsAndJoinsRow.holds Try.pinned (OpenSpec.ofChange fnNewECMAParserReadsCodePointsAndJoinsWrong)

/-- 'zzlaws_internal_ecmaregexp_b1.FnNewECMAParserParsersShareNothing': WHATEVER THE INPUT: true; the input reads as it did. -/
def fnNewECMAParserParsersShareNothingSpec : ChangeSpec := { name := "fnNewECMAParserParsersShareNothing", fn := fun _ => fun
  | [d1, d2] => { results := [.lit (.bool true)], args := [d1, d2] }
  | _ => none }
def fnNewECMAParserParsersShareNothingRow : OpenClaim := { program := "qxb6613280a", sum := "d5404a598164a9da887eaf232cecbd9d1aae93a5d026a56a3cfe470f67c0acdb", func := "example.com/tandem-intake/tandem-intake/zzlaws_internal_ecmaregexp_b1.FnNewECMAParserParsersShareNothing", spec := "fnNewECMAParserParsersShareNothing", inPlace := ["internal/abi.NoEscape"], apart := false }
def FnNewECMAParserParsersShareNothingSaid : Prop := fnNewECMAParserParsersShareNothingRow.holds Try.pinned (OpenSpec.ofChange fnNewECMAParserParsersShareNothingSpec)

/-- ITS FALSE NEIGHBOUR: 'it returns false'. Refute it at one input. -/
def fnNewECMAParserParsersShareNothingWrong : ChangeSpec := { name := "fnNewECMAParserParsersShareNothing", fn := fun _ => fun
  | [d1, d2] => { results := [.lit (.bool false)], args := [d1, d2] }
  | _ => none }
def FnNewECMAParserParsersShareNothingWrongFalsely : Prop := fnNewECMAParserParsersShareNothingRow.holds Try.pinned (OpenSpec.ofChange fnNewECMAParserParsersShareNothingWrong)

end Rows
end Go.Proofs.Qxb6613280a
