/-
  No cell of these rows narrows 'for every input' (looked for: loops, veiled, ifaces, maps, wideKeys, modest, calm, conditions, laid).
  DERIVED. THE GIVEN ROWS OF THIS SEAT. 5 by the template 'for every input the law returns true; each argument reads behind the call as it read before'; 0 by the template 'total and deterministic' (their statements: Qxb6601451aTotals.lean).
  GIVEN WITH THE SEED: the statements are not yours to turn. If you find one false, say at which input.
  Laid BY PROGRAM, IN A SANDBOX (cutbox-rows.mjs): the forced cells as the released guide's own fill.sh prints them over the translation d5ca3aff412ee5a6… (all of the seat's roots in one cut). By AI agents, Wed Nov 11 2026. No macro, syntax, notation, axiom, sorry.
-/
import Derived.Test.Qxb6601451aChecked
import GoSem.Claim
import GoSem.ClaimJoined
import GoSem.ClaimMapViews
import Derived.JoinedTies
import Derived.KernelRfl
namespace Go.Proofs.Qxb6601451a
/- THE CELL 'sum', in the pinned program and in every row, IS THE sha256 OF THE DUMP (.gsa) THAT Qxb6601451aProg.lean LOADS. Nothing in Lean hashes anything: it is a label: what it is worth is what the hold of that sum in a sandbox is worth. -/
noncomputable def Try.pinned : Pinned := { name := "qxb6601451a", sum := "d5ca3aff412ee5a6b950c5aa6ba0c6cdd4d1f6e4362ab97fe0100de7611a8ffb", checked := Try.checked }
namespace Rows
def none {H : Type} : Left H := { results := [], args := [] }

/-- 'zzlaws_rawjson_b1.FnSkipNumberMatchesAutomaton': WHATEVER THE INPUT: true; the input reads as it did. -/
def fnSkipNumberMatchesAutomatonSpec : ChangeSpec := { name := "fnSkipNumberMatchesAutomaton", fn := fun _ => fun
  | [d1, d2] => { results := [.lit (.bool true)], args := [d1, d2] }
  | _ => none }
def fnSkipNumberMatchesAutomatonRow : OpenClaim := { program := "qxb6601451a", sum := "d5ca3aff412ee5a6b950c5aa6ba0c6cdd4d1f6e4362ab97fe0100de7611a8ffb", func := "example.com/foldline/foldline/zzlaws_rawjson_b1.FnSkipNumberMatchesAutomaton", spec := "fnSkipNumberMatchesAutomaton", apart := false }
def FnSkipNumberMatchesAutomatonSaid : Prop := fnSkipNumberMatchesAutomatonRow.holds Try.pinned (OpenSpec.ofChange fnSkipNumberMatchesAutomatonSpec)

/-- ITS FALSE NEIGHBOUR: 'it returns false'. Refute it at one input. -/
def fnSkipNumberMatchesAutomatonWrong : ChangeSpec := { name := "fnSkipNumberMatchesAutomaton", fn := fun _ => fun
  | [d1, d2] => { results := [.lit (.bool false)], args := [d1, d2] }
  | _ => none }
def FnSkipNumberMatchesAutomatonWrongFalsely : Prop := fnSkipNumberMatchesAutomatonRow.holds Try.pinned (OpenSpec.ofChange fnSkipNumberMatchesAutomatonWrong)

/-- 'zzlaws_rawjson_b1.FnSkipNumberLocalAndSelfDelimiting': WHATEVER THE INPUT: true; the input reads as it did. -/
def fnSkipNumberLocalAndSelfDelimitingSpec : ChangeSpec := { name := "fnSkipNumberLocalAndSelfDelimiting", fn := fun _ => fun
  | [d1, d2] => { results := [.lit (.bool true)], args := [d1, d2] }
  | _ => none }
def fnSkipNumberLocalAndSelfDelimitingRow : OpenClaim := { program := "qxb6601451a", sum := "d5ca3aff412ee5a6b950c5aa6ba0c6cdd4d1f6e4362ab97fe0100de7611a8ffb", func := "example.com/foldline/foldline/zzlaws_rawjson_b1.FnSkipNumberLocalAndSelfDelimiting", spec := "fnSkipNumberLocalAndSelfDelimiting", apart := false }
def FnSkipNumberLocalAndSelfDelimitingSaid : Prop := fnSkipNumberLocalAndSelfDelimitingRow.holds Try.pinned (OpenSpec.ofChange fnSkipNumberLocalAndSelfDelimitingSpec)

/-- ITS FALSE NEIGHBOUR: 'it returns false'. Refute it at one input. -/
def fnSkipNumberLocalAndSelfDelimitingWrong : ChangeSpec := { name := "fnSkipNumberLocalAndSelfDelimiting", fn := fun _ => fun
  | [d1, d2] => { results := [.lit (.bool false)], args := [d1, d2] }
  | _ => none }
def FnSkipNumberLocalAndSelfDelimitingWrongFalsely : Prop := fnSkipNumberLocalAndSelfDelimitingRow.holds Try.pinned (OpenSpec.ofChange fnSkipNumberLocalAndSelfDelimitingWrong)

/-- 'zzlaws_rawjson_b1.FnEscapeLengthMatchesPrefixModel': WHATEVER THE INPUT: true; the input reads as it did. -/
def fnEscapeLengthMatchesPrefixModelSpec : ChangeSpec := { name := "fnEscapeLengthMatchesPrefixModel", fn := fun _ => fun
  | [d1, d2] => { results := [.lit (.bool true)], args := [d1, d2] }
  | _ => none }
def fnEscapeLengthMatchesPrefixModelRow : OpenClaim := { program := "qxb6601451a", sum := "d5ca3aff412ee5a6b950c5aa6ba0c6cdd4d1f6e4362ab97fe0100de7611a8ffb", func := "example.com/foldline/foldline/zzlaws_rawjson_b1.FnEscapeLengthMatchesPrefixModel", spec := "fnEscapeLengthMatchesPrefixModel", apart := false }
def FnEscapeLengthMatchesPrefixModelSaid : Prop := fnEscapeLengthMatchesPrefixModelRow.holds Try.pinned (OpenSpec.ofChange fnEscapeLengthMatchesPrefixModelSpec)

/-- ITS FALSE NEIGHBOUR: 'it returns false'. Refute it at one input. -/
def fnEscapeLengthMatchesPrefixModelWrong : ChangeSpec := { name := "fnEscapeLengthMatchesPrefixModel", fn := fun _ => fun
  | [d1, d2] => { results := [.lit (.bool false)], args := [d1, d2] }
  | _ => none }
def FnEscapeLengthMatchesPrefixModelWrongFalsely : Prop := fnEscapeLengthMatchesPrefixModelRow.holds Try.pinned (OpenSpec.ofChange fnEscapeLengthMatchesPrefixModelWrong)

/-- 'zzlaws_rawjson_b1.FnEscapeLengthLocalAndBounded': WHATEVER THE INPUT: true; the input reads as it did. -/
def fnEscapeLengthLocalAndBoundedSpec : ChangeSpec := { name := "fnEscapeLengthLocalAndBounded", fn := fun _ => fun
  | [d1, d2] => { results := [.lit (.bool true)], args := [d1, d2] }
  | _ => none }
def fnEscapeLengthLocalAndBoundedRow : OpenClaim := { program := "qxb6601451a", sum := "d5ca3aff412ee5a6b950c5aa6ba0c6cdd4d1f6e4362ab97fe0100de7611a8ffb", func := "example.com/foldline/foldline/zzlaws_rawjson_b1.FnEscapeLengthLocalAndBounded", spec := "fnEscapeLengthLocalAndBounded", apart := false }
def FnEscapeLengthLocalAndBoundedSaid : Prop := fnEscapeLengthLocalAndBoundedRow.holds Try.pinned (OpenSpec.ofChange fnEscapeLengthLocalAndBoundedSpec)

/-- ITS FALSE NEIGHBOUR: 'it returns false'. Refute it at one input. -/
def fnEscapeLengthLocalAndBoundedWrong : ChangeSpec := { name := "fnEscapeLengthLocalAndBounded", fn := fun _ => fun
  | [d1, d2] => { results := [.lit (.bool false)], args := [d1, d2] }
  | _ => none }
def FnEscapeLengthLocalAndBoundedWrongFalsely : Prop := fnEscapeLengthLocalAndBoundedRow.holds Try.pinned (OpenSpec.ofChange fnEscapeLengthLocalAndBoundedWrong)

/-- 'zzlaws_rawjson_b1.FnWalkMatchesModel': WHATEVER THE INPUT: true; the input reads as it did. -/
def fnWalkMatchesModelSpec : ChangeSpec := { name := "fnWalkMatchesModel", fn := fun _ => fun
  | [d1, d2, d3, d4] => { results := [.lit (.bool true)], args := [d1, d2, d3, d4] }
  | _ => none }
def fnWalkMatchesModelRow : OpenClaim := { program := "qxb6601451a", sum := "d5ca3aff412ee5a6b950c5aa6ba0c6cdd4d1f6e4362ab97fe0100de7611a8ffb", func := "example.com/foldline/foldline/zzlaws_rawjson_b1.FnWalkMatchesModel", spec := "fnWalkMatchesModel", apart := false }
def FnWalkMatchesModelSaid : Prop := fnWalkMatchesModelRow.holds Try.pinned (OpenSpec.ofChange fnWalkMatchesModelSpec)

/-- ITS FALSE NEIGHBOUR: 'it returns false'. Refute it at one input. -/
def fnWalkMatchesModelWrong : ChangeSpec := { name := "fnWalkMatchesModel", fn := fun _ => fun
  | [d1, d2, d3, d4] => { results := [.lit (.bool false)], args := [d1, d2, d3, d4] }
  | _ => none }
def FnWalkMatchesModelWrongFalsely : Prop := fnWalkMatchesModelRow.holds Try.pinned (OpenSpec.ofChange fnWalkMatchesModelWrong)

end Rows
end Go.Proofs.Qxb6601451a
