/-
  No cell of these rows narrows 'for every input' (looked for: loops, veiled, ifaces, maps, wideKeys, modest, calm, conditions, laid).
  DERIVED. THE GIVEN ROWS OF THIS SEAT. 3 by the template 'for every input the law returns true; each argument reads behind the call as it read before'; 0 by the template 'total and deterministic' (their statements: Qxb6603754aTotals.lean).
  GIVEN WITH THE SEED: the statements are not yours to turn. If you find one false, say at which input.
  Laid BY PROGRAM, IN A SANDBOX (cutbox-rows.mjs): the forced cells as the released guide's own fill.sh prints them over the translation 33047ecf84573f14… (all of the seat's roots in one cut). By AI agents, Wed Nov 11 2026. No macro, syntax, notation, axiom, sorry.
-/
import Derived.Test.Qxb6603754aChecked
import GoSem.Claim
import GoSem.ClaimJoined
import GoSem.ClaimMapViews
import Derived.JoinedTies
import Derived.KernelRfl
namespace Go.Proofs.Qxb6603754a
/- THE CELL 'sum', in the pinned program and in every row, IS THE sha256 OF THE DUMP (.gsa) THAT Qxb6603754aProg.lean LOADS. Nothing in Lean hashes anything: it is a label: what it is worth is what the hold of that sum in a sandbox is worth. -/
noncomputable def Try.pinned : Pinned := { name := "qxb6603754a", sum := "33047ecf84573f14a688286b8430a4f2c29ed7550383ff164fd38b16780132a4", checked := Try.checked }
namespace Rows
def none {H : Type} : Left H := { results := [], args := [] }

/-- 'zzlaws_resp_b1.FnParseIntMatchesPlaceValueModel': WHATEVER THE INPUT: true; the input reads as it did. -/
def fnParseIntMatchesPlaceValueModelSpec : ChangeSpec := { name := "fnParseIntMatchesPlaceValueModel", fn := fun _ => fun
  | [d] => { results := [.lit (.bool true)], args := [d] }
  | _ => none }
def fnParseIntMatchesPlaceValueModelRow : OpenClaim := { program := "qxb6603754a", sum := "33047ecf84573f14a688286b8430a4f2c29ed7550383ff164fd38b16780132a4", func := "example.com/shardwise/shardwise/zzlaws_resp_b1.FnParseIntMatchesPlaceValueModel", spec := "fnParseIntMatchesPlaceValueModel", apart := false }
def FnParseIntMatchesPlaceValueModelSaid : Prop := fnParseIntMatchesPlaceValueModelRow.holds Try.pinned (OpenSpec.ofChange fnParseIntMatchesPlaceValueModelSpec)

/-- ITS FALSE NEIGHBOUR: 'it returns false'. Refute it at one input. -/
def fnParseIntMatchesPlaceValueModelWrong : ChangeSpec := { name := "fnParseIntMatchesPlaceValueModel", fn := fun _ => fun
  | [d] => { results := [.lit (.bool false)], args := [d] }
  | _ => none }
def FnParseIntMatchesPlaceValueModelWrongFalsely : Prop := fnParseIntMatchesPlaceValueModelRow.holds Try.pinned (OpenSpec.ofChange fnParseIntMatchesPlaceValueModelWrong)

/-- 'zzlaws_resp_b1.FnParseIntReadsBackPaddedDecimal': WHATEVER THE INPUT: true; the input reads as it did. -/
def fnParseIntReadsBackPaddedDecimalSpec : ChangeSpec := { name := "fnParseIntReadsBackPaddedDecimal", fn := fun _ => fun
  | [d1, d2] => { results := [.lit (.bool true)], args := [d1, d2] }
  | _ => none }
def fnParseIntReadsBackPaddedDecimalRow : OpenClaim := { program := "qxb6603754a", sum := "33047ecf84573f14a688286b8430a4f2c29ed7550383ff164fd38b16780132a4", func := "example.com/shardwise/shardwise/zzlaws_resp_b1.FnParseIntReadsBackPaddedDecimal", spec := "fnParseIntReadsBackPaddedDecimal", apart := false }
def FnParseIntReadsBackPaddedDecimalSaid : Prop := fnParseIntReadsBackPaddedDecimalRow.holds Try.pinned (OpenSpec.ofChange fnParseIntReadsBackPaddedDecimalSpec)

/-- ITS FALSE NEIGHBOUR: 'it returns false'. Refute it at one input. -/
def fnParseIntReadsBackPaddedDecimalWrong : ChangeSpec := { name := "fnParseIntReadsBackPaddedDecimal", fn := fun _ => fun
  | [d1, d2] => { results := [.lit (.bool false)], args := [d1, d2] }
  | _ => none }
def FnParseIntReadsBackPaddedDecimalWrongFalsely : Prop := fnParseIntReadsBackPaddedDecimalRow.holds Try.pinned (OpenSpec.ofChange fnParseIntReadsBackPaddedDecimalWrong)

/-- 'zzlaws_resp_b1.FnPlainHeaderMatchesModel': WHATEVER THE INPUT: true; the input reads as it did. -/
def fnPlainHeaderMatchesModelSpec : ChangeSpec := { name := "fnPlainHeaderMatchesModel", fn := fun _ => fun
  | [d1, d2] => { results := [.lit (.bool true)], args := [d1, d2] }
  | _ => none }
def fnPlainHeaderMatchesModelRow : OpenClaim := { program := "qxb6603754a", sum := "33047ecf84573f14a688286b8430a4f2c29ed7550383ff164fd38b16780132a4", func := "example.com/shardwise/shardwise/zzlaws_resp_b1.FnPlainHeaderMatchesModel", spec := "fnPlainHeaderMatchesModel", apart := false }
def FnPlainHeaderMatchesModelSaid : Prop := fnPlainHeaderMatchesModelRow.holds Try.pinned (OpenSpec.ofChange fnPlainHeaderMatchesModelSpec)

/-- ITS FALSE NEIGHBOUR: 'it returns false'. Refute it at one input. -/
def fnPlainHeaderMatchesModelWrong : ChangeSpec := { name := "fnPlainHeaderMatchesModel", fn := fun _ => fun
  | [d1, d2] => { results := [.lit (.bool false)], args := [d1, d2] }
  | _ => none }
def FnPlainHeaderMatchesModelWrongFalsely : Prop := fnPlainHeaderMatchesModelRow.holds Try.pinned (OpenSpec.ofChange fnPlainHeaderMatchesModelWrong)

end Rows
end Go.Proofs.Qxb6603754a
