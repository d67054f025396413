/-
  No cell of these rows narrows 'for every input' (looked for: loops, veiled, ifaces, maps, wideKeys, modest, calm, conditions, laid).
  DERIVED. THE GIVEN ROWS OF THIS SEAT. 2 by the template 'for every input the law returns true; each argument reads behind the call as it read before'; 0 by the template 'total and deterministic' (their statements: Qxb6602709aTotals.lean).
  GIVEN WITH THE SEED: the statements are not yours to turn. If you find one false, say at which input.
  Laid BY PROGRAM, IN A SANDBOX (cutbox-rows.mjs): the forced cells as the released guide's own fill.sh prints them over the translation 747e2f0c0435a881… (all of the seat's roots in one cut). By AI agents, Wed Nov 11 2026. No macro, syntax, notation, axiom, sorry.
-/
import Derived.Test.Qxb6602709aChecked
import GoSem.Claim
import GoSem.ClaimJoined
import GoSem.ClaimMapViews
import Derived.JoinedTies
import Derived.KernelRfl
namespace Go.Proofs.Qxb6602709a
/- THE CELL 'sum', in the pinned program and in every row, IS THE sha256 OF THE DUMP (.gsa) THAT Qxb6602709aProg.lean LOADS. Nothing in Lean hashes anything: it is a label: what it is worth is what the hold of that sum in a sandbox is worth. -/
noncomputable def Try.pinned : Pinned := { name := "qxb6602709a", sum := "747e2f0c0435a8812292fcd16bbb14a790a205302182d4d4c7acee55a2df224c", checked := Try.checked }
namespace Rows
def none {H : Type} : Left H := { results := [], args := [] }

/-- 'zzlaws_internal_bencode_b1.FnIntMatchesDecimalModel': WHATEVER THE INPUT: true; the input reads as it did. -/
def fnIntMatchesDecimalModelSpec : ChangeSpec := { name := "fnIntMatchesDecimalModel", fn := fun _ => fun
  | [d] => { results := [.lit (.bool true)], args := [d] }
  | _ => none }
def fnIntMatchesDecimalModelRow : OpenClaim := { program := "qxb6602709a", sum := "747e2f0c0435a8812292fcd16bbb14a790a205302182d4d4c7acee55a2df224c", func := "example.com/overlace/overlace/zzlaws_internal_bencode_b1.FnIntMatchesDecimalModel", spec := "fnIntMatchesDecimalModel", apart := false }
def FnIntMatchesDecimalModelSaid : Prop := fnIntMatchesDecimalModelRow.holds Try.pinned (OpenSpec.ofChange fnIntMatchesDecimalModelSpec)

/-- ITS FALSE NEIGHBOUR: 'it returns false'. Refute it at one input. -/
def fnIntMatchesDecimalModelWrong : ChangeSpec := { name := "fnIntMatchesDecimalModel", fn := fun _ => fun
  | [d] => { results := [.lit (.bool false)], args := [d] }
  | _ => none }
def FnIntMatchesDecimalModelWrongFalsely : Prop := fnIntMatchesDecimalModelRow.holds Try.pinned (OpenSpec.ofChange fnIntMatchesDecimalModelWrong)

/-- 'zzlaws_internal_bencode_b1.FnIntReadsBackEveryInt64': WHATEVER THE INPUT: true; the input reads as it did. -/
def fnIntReadsBackEveryInt64Spec : ChangeSpec := { name := "fnIntReadsBackEveryInt64", fn := fun _ => fun
  | [d] => { results := [.lit (.bool true)], args := [d] }
  | _ => none }
def fnIntReadsBackEveryInt64Row : OpenClaim := { program := "qxb6602709a", sum := "747e2f0c0435a8812292fcd16bbb14a790a205302182d4d4c7acee55a2df224c", func := "example.com/overlace/overlace/zzlaws_internal_bencode_b1.FnIntReadsBackEveryInt64", spec := "fnIntReadsBackEveryInt64", apart := false }
def FnIntReadsBackEveryInt64Said : Prop := fnIntReadsBackEveryInt64Row.holds Try.pinned (OpenSpec.ofChange fnIntReadsBackEveryInt64Spec)

/-- ITS FALSE NEIGHBOUR: 'it returns false'. Refute it at one input. -/
def fnIntReadsBackEveryInt64Wrong : ChangeSpec := { name := "fnIntReadsBackEveryInt64", fn := fun _ => fun
  | [d] => { results := [.lit (.bool false)], args := [d] }
  | _ => none }
def FnIntReadsBackEveryInt64WrongFalsely : Prop := fnIntReadsBackEveryInt64Row.holds Try.pinned (OpenSpec.ofChange fnIntReadsBackEveryInt64Wrong)

end Rows
end Go.Proofs.Qxb6602709a
