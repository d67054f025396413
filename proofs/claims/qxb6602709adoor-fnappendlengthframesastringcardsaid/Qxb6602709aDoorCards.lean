/-
  DERIVED. GIVEN WITH THE SEED: THE CARDS: each row of Qxb6602709aDoorRows.lean that lists a variable, with what it lists TIED to the program's text (the seventh form; the later family's looks); each row that meets fmt, with fmt's text TOLD by the authors' own Lean function (tested against real Go, not proved from fmt's source: count such statements apart). THE CARD IS WHAT COUNTS. Prove the row's statement (the work); the ties are given (Qxb6602709aDoorTie.lean); close each card by the builder's one call (the guide's Derived/Test/ToyasCard.lean, 'card_holds'). Laid BY PROGRAM, IN A SANDBOX (cutbox-door.mjs). By AI agents, Wed Nov 11 2026. No macro, syntax, notation, axiom, sorry.
-/
import Derived.Test.Qxb6602709aDoorRows
import GoSem.ClaimSeven
namespace Go.Proofs.Qxb6602709aDoor
namespace Rows

/-- THE TIED CARD OF 'zzlaws_internal_bencode_b1.FnAppendLengthWritesDecimalAndColon'. -/
def fnAppendLengthWritesDecimalAndColonCard : Claim7 := { stood := { row := fnAppendLengthWritesDecimalAndColonRow, standIns := [], harness := (true, "d9563479bcad60913018fe088c3bc8f88f8212cdd2112ae029835f98a12b7046"), looks := false }, kinds := [], alts := [], laidByText := true, laidKinds := [.data, .data, .data], laidTests := true, laidLooks := .later }
def FnAppendLengthWritesDecimalAndColonCardSaid : Prop := Claim7.holds Tryd.pinned (.plain (OpenSpec.ofChange fnAppendLengthWritesDecimalAndColonSpec)) fnAppendLengthWritesDecimalAndColonCard

/-- THE TIED CARD OF 'zzlaws_internal_bencode_b1.FnAppendLengthFramesAString'. -/
def fnAppendLengthFramesAStringCard : Claim7 := { stood := { row := fnAppendLengthFramesAStringRow, standIns := [], harness := (true, "d9563479bcad60913018fe088c3bc8f88f8212cdd2112ae029835f98a12b7046"), looks := false }, kinds := [], alts := [], laidByText := true, laidKinds := [.data, .data, .data], laidTests := true, laidLooks := .later }
def FnAppendLengthFramesAStringCardSaid : Prop := Claim7.holds Tryd.pinned (.plain (OpenSpec.ofChange fnAppendLengthFramesAStringSpec)) fnAppendLengthFramesAStringCard
end Rows
end Go.Proofs.Qxb6602709aDoor
