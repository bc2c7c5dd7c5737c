/-
  No cell of these rows narrows 'for every input' (looked for: loops, veiled, ifaces, maps, wideKeys, modest, calm, conditions, laid).
  DERIVED. THE GIVEN ROWS OF THIS SEAT. 1 by the template 'for every input the law returns true; each argument reads behind the call as it read before'; 0 by the template 'total and deterministic' (their statements: Qxb6613223aFmtTotals.lean).
  GIVEN WITH THE SEED: the statements are not yours to turn. If you find one false, say at which input.
  Laid BY PROGRAM, IN A SANDBOX (cutbox-rows.mjs): the forced cells as the released guide's own fill.sh prints them over the translation 965dfa5cb07f2e3f… (all of the seat's roots in one cut). By AI agents, Wed Nov 11 2026. No macro, syntax, notation, axiom, sorry.
-/
import Derived.Test.Qxb6613223aFmtChecked
import GoSem.Claim
import GoSem.ClaimJoined
import GoSem.ClaimMapViews
import Derived.JoinedTies
import Derived.KernelRfl
namespace Go.Proofs.Qxb6613223aFmt
/- THE CELL 'sum', in the pinned program and in every row, IS THE sha256 OF THE DUMP (.gsa) THAT Qxb6613223aFmtProg.lean LOADS. Nothing in Lean hashes anything: it is a label: what it is worth is what the hold of that sum in a sandbox is worth. -/
noncomputable def Tryf.pinned : Pinned := { name := "qxb6613223afmt", sum := "965dfa5cb07f2e3ffd18b63ad5a0f2bb213db4d274281acc0001eda0b9d9679c", checked := Tryf.checked }
namespace Rows
def none {H : Type} : Left H := { results := [], args := [] }

/-- 'zzlaws_yamltext_b1.FnAbridgeHeadIgnoresTail': WHATEVER THE INPUT: true; the input reads as it did. -/
def fnAbridgeHeadIgnoresTailSpec : ChangeSpec := { name := "fnAbridgeHeadIgnoresTail", fn := fun _ => fun
  | [d1, d2] => { results := [.lit (.bool true)], args := [d1, d2] }
  | _ => none }
def fnAbridgeHeadIgnoresTailRow : OpenClaim := { program := "qxb6613223afmt", sum := "965dfa5cb07f2e3ffd18b63ad5a0f2bb213db4d274281acc0001eda0b9d9679c", func := "example.com/forbear/forbear/zzlaws_yamltext_b1.FnAbridgeHeadIgnoresTail", spec := "fnAbridgeHeadIgnoresTail", stops := ["fmt.Sprintf"], inPlace := ["fmt.Sprintf"], unfollowed := true, recurses := true, apart := false }
/-- NO THEOREM (fmt's text is open here; it may be false): for the released tool's asking of the row's closed facts alone. THE STATEMENT IS 'FnAbridgeHeadIgnoresTailToldSaid' (Qxb6613223aFmtCards.lean). -/
def FnAbridgeHeadIgnoresTailFormAsk : Prop := fnAbridgeHeadIgnoresTailRow.holds Tryf.pinned (OpenSpec.ofChange fnAbridgeHeadIgnoresTailSpec)

/-- ITS FALSE NEIGHBOUR: 'it returns false'. Refute it at one input. -/
def fnAbridgeHeadIgnoresTailWrong : ChangeSpec := { name := "fnAbridgeHeadIgnoresTail", fn := fun _ => fun
  | [d1, d2] => { results := [.lit (.bool false)], args := [d1, d2] }
  | _ => none }
def FnAbridgeHeadIgnoresTailWrongFormAsk : Prop := fnAbridgeHeadIgnoresTailRow.holds Tryf.pinned (OpenSpec.ofChange fnAbridgeHeadIgnoresTailWrong)

end Rows
end Go.Proofs.Qxb6613223aFmt
