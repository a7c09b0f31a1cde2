/-
  No cell of these rows narrows 'for every input' (looked for: loops, veiled, ifaces, maps, wideKeys, modest, calm, conditions, laid).
  DERIVED. THE GIVEN ROWS OF THIS SEAT. 6 by the template 'for every input the law returns true; each argument reads behind the call as it read before'; 0 by the template 'total and deterministic' (their statements: Qxb6601512aTotals.lean).
  GIVEN WITH THE SEED: the statements are not yours to turn. If you find one false, say at which input.
  Laid BY PROGRAM, IN A SANDBOX (cutbox-rows.mjs): the forced cells as the released guide's own fill.sh prints them over the translation 2554bf91392726f9… (all of the seat's roots in one cut). By AI agents, Wed Nov 11 2026. No macro, syntax, notation, axiom, sorry.
-/
import Derived.Test.Qxb6601512aChecked
import GoSem.Claim
import GoSem.ClaimJoined
import GoSem.ClaimMapViews
import Derived.JoinedTies
import Derived.KernelRfl
namespace Go.Proofs.Qxb6601512a
/- THE CELL 'sum', in the pinned program and in every row, IS THE sha256 OF THE DUMP (.gsa) THAT Qxb6601512aProg.lean LOADS. Nothing in Lean hashes anything: it is a label: what it is worth is what the hold of that sum in a sandbox is worth. -/
noncomputable def Try.pinned : Pinned := { name := "qxb6601512a", sum := "2554bf91392726f99c7bb8205a67f275a73ae07fe9ac7216114f1e177a5461c6", checked := Try.checked }
namespace Rows
def none {H : Type} : Left H := { results := [], args := [] }

/-- 'zzlaws_sip_b1.FnQuotedStringMatchesRunModel': WHATEVER THE INPUT: true; the input reads as it did. -/
def fnQuotedStringMatchesRunModelSpec : ChangeSpec := { name := "fnQuotedStringMatchesRunModel", fn := fun _ => fun
  | [d] => { results := [.lit (.bool true)], args := [d] }
  | _ => none }
def fnQuotedStringMatchesRunModelRow : OpenClaim := { program := "qxb6601512a", sum := "2554bf91392726f99c7bb8205a67f275a73ae07fe9ac7216114f1e177a5461c6", func := "example.com/heliograph/heliograph/zzlaws_sip_b1.FnQuotedStringMatchesRunModel", spec := "fnQuotedStringMatchesRunModel", inPlace := ["internal/abi.NoEscape"], apart := false }
def FnQuotedStringMatchesRunModelSaid : Prop := fnQuotedStringMatchesRunModelRow.holds Try.pinned (OpenSpec.ofChange fnQuotedStringMatchesRunModelSpec)

/-- ITS FALSE NEIGHBOUR: 'it returns false'. Refute it at one input. -/
def fnQuotedStringMatchesRunModelWrong : ChangeSpec := { name := "fnQuotedStringMatchesRunModel", fn := fun _ => fun
  | [d] => { results := [.lit (.bool false)], args := [d] }
  | _ => none }
def FnQuotedStringMatchesRunModelWrongFalsely : Prop := fnQuotedStringMatchesRunModelRow.holds Try.pinned (OpenSpec.ofChange fnQuotedStringMatchesRunModelWrong)

/-- 'zzlaws_sip_b1.FnQuotedStringReadsBackWhatQuotingWrote': WHATEVER THE INPUT: true; the input reads as it did. -/
def fnQuotedStringReadsBackWhatQuotingWroteSpec : ChangeSpec := { name := "fnQuotedStringReadsBackWhatQuotingWrote", fn := fun _ => fun
  | [d1, d2] => { results := [.lit (.bool true)], args := [d1, d2] }
  | _ => none }
def fnQuotedStringReadsBackWhatQuotingWroteRow : OpenClaim := { program := "qxb6601512a", sum := "2554bf91392726f99c7bb8205a67f275a73ae07fe9ac7216114f1e177a5461c6", func := "example.com/heliograph/heliograph/zzlaws_sip_b1.FnQuotedStringReadsBackWhatQuotingWrote", spec := "fnQuotedStringReadsBackWhatQuotingWrote", inPlace := ["internal/abi.NoEscape"], apart := false }
def FnQuotedStringReadsBackWhatQuotingWroteSaid : Prop := fnQuotedStringReadsBackWhatQuotingWroteRow.holds Try.pinned (OpenSpec.ofChange fnQuotedStringReadsBackWhatQuotingWroteSpec)

/-- ITS FALSE NEIGHBOUR: 'it returns false'. Refute it at one input. -/
def fnQuotedStringReadsBackWhatQuotingWroteWrong : ChangeSpec := { name := "fnQuotedStringReadsBackWhatQuotingWrote", fn := fun _ => fun
  | [d1, d2] => { results := [.lit (.bool false)], args := [d1, d2] }
  | _ => none }
def FnQuotedStringReadsBackWhatQuotingWroteWrongFalsely : Prop := fnQuotedStringReadsBackWhatQuotingWroteRow.holds Try.pinned (OpenSpec.ofChange fnQuotedStringReadsBackWhatQuotingWroteWrong)

/-- 'zzlaws_sip_b1.FnQuotedStringSpanStandsAlone': WHATEVER THE INPUT: true; the input reads as it did. -/
def fnQuotedStringSpanStandsAloneSpec : ChangeSpec := { name := "fnQuotedStringSpanStandsAlone", fn := fun _ => fun
  | [d] => { results := [.lit (.bool true)], args := [d] }
  | _ => none }
def fnQuotedStringSpanStandsAloneRow : OpenClaim := { program := "qxb6601512a", sum := "2554bf91392726f99c7bb8205a67f275a73ae07fe9ac7216114f1e177a5461c6", func := "example.com/heliograph/heliograph/zzlaws_sip_b1.FnQuotedStringSpanStandsAlone", spec := "fnQuotedStringSpanStandsAlone", inPlace := ["internal/abi.NoEscape"], apart := false }
def FnQuotedStringSpanStandsAloneSaid : Prop := fnQuotedStringSpanStandsAloneRow.holds Try.pinned (OpenSpec.ofChange fnQuotedStringSpanStandsAloneSpec)

/-- ITS FALSE NEIGHBOUR: 'it returns false'. Refute it at one input. -/
def fnQuotedStringSpanStandsAloneWrong : ChangeSpec := { name := "fnQuotedStringSpanStandsAlone", fn := fun _ => fun
  | [d] => { results := [.lit (.bool false)], args := [d] }
  | _ => none }
def FnQuotedStringSpanStandsAloneWrongFalsely : Prop := fnQuotedStringSpanStandsAloneRow.holds Try.pinned (OpenSpec.ofChange fnQuotedStringSpanStandsAloneWrong)

/-- 'zzlaws_sip_b1.FnIsTokenSplitsOverConcatenation': WHATEVER THE INPUT: true; the input reads as it did. -/
def fnIsTokenSplitsOverConcatenationSpec : ChangeSpec := { name := "fnIsTokenSplitsOverConcatenation", fn := fun _ => fun
  | [d1, d2] => { results := [.lit (.bool true)], args := [d1, d2] }
  | _ => none }
def fnIsTokenSplitsOverConcatenationRow : OpenClaim := { program := "qxb6601512a", sum := "2554bf91392726f99c7bb8205a67f275a73ae07fe9ac7216114f1e177a5461c6", func := "example.com/heliograph/heliograph/zzlaws_sip_b1.FnIsTokenSplitsOverConcatenation", spec := "fnIsTokenSplitsOverConcatenation", inPlace := ["internal/bytealg.IndexByteString"], apart := false }
def FnIsTokenSplitsOverConcatenationSaid : Prop := fnIsTokenSplitsOverConcatenationRow.holds Try.pinned (OpenSpec.ofChange fnIsTokenSplitsOverConcatenationSpec)

/-- ITS FALSE NEIGHBOUR: 'it returns false'. Refute it at one input. -/
def fnIsTokenSplitsOverConcatenationWrong : ChangeSpec := { name := "fnIsTokenSplitsOverConcatenation", fn := fun _ => fun
  | [d1, d2] => { results := [.lit (.bool false)], args := [d1, d2] }
  | _ => none }
def FnIsTokenSplitsOverConcatenationWrongFalsely : Prop := fnIsTokenSplitsOverConcatenationRow.holds Try.pinned (OpenSpec.ofChange fnIsTokenSplitsOverConcatenationWrong)

/-- 'zzlaws_sip_b1.FnParamsStringRoundTripsTokenNames': WHATEVER THE INPUT: true; the input reads as it did. -/
def fnParamsStringRoundTripsTokenNamesSpec : ChangeSpec := { name := "fnParamsStringRoundTripsTokenNames", fn := fun _ => fun
  | [d1, d2] => { results := [.lit (.bool true)], args := [d1, d2] }
  | _ => none }
def fnParamsStringRoundTripsTokenNamesRow : OpenClaim := { program := "qxb6601512a", sum := "2554bf91392726f99c7bb8205a67f275a73ae07fe9ac7216114f1e177a5461c6", func := "example.com/heliograph/heliograph/zzlaws_sip_b1.FnParamsStringRoundTripsTokenNames", spec := "fnParamsStringRoundTripsTokenNames", inPlace := ["internal/bytealg.IndexByteString", "internal/abi.NoEscape"], apart := false }
def FnParamsStringRoundTripsTokenNamesSaid : Prop := fnParamsStringRoundTripsTokenNamesRow.holds Try.pinned (OpenSpec.ofChange fnParamsStringRoundTripsTokenNamesSpec)

/-- ITS FALSE NEIGHBOUR: 'it returns false'. Refute it at one input. -/
def fnParamsStringRoundTripsTokenNamesWrong : ChangeSpec := { name := "fnParamsStringRoundTripsTokenNames", fn := fun _ => fun
  | [d1, d2] => { results := [.lit (.bool false)], args := [d1, d2] }
  | _ => none }
def FnParamsStringRoundTripsTokenNamesWrongFalsely : Prop := fnParamsStringRoundTripsTokenNamesRow.holds Try.pinned (OpenSpec.ofChange fnParamsStringRoundTripsTokenNamesWrong)

/-- 'zzlaws_sip_b1.FnParamsStringSplitsAtEveryCut': WHATEVER THE INPUT: true; the input reads as it did. -/
def fnParamsStringSplitsAtEveryCutSpec : ChangeSpec := { name := "fnParamsStringSplitsAtEveryCut", fn := fun _ => fun
  | [d1, d2, d3] => { results := [.lit (.bool true)], args := [d1, d2, d3] }
  | _ => none }
def fnParamsStringSplitsAtEveryCutRow : OpenClaim := { program := "qxb6601512a", sum := "2554bf91392726f99c7bb8205a67f275a73ae07fe9ac7216114f1e177a5461c6", func := "example.com/heliograph/heliograph/zzlaws_sip_b1.FnParamsStringSplitsAtEveryCut", spec := "fnParamsStringSplitsAtEveryCut", inPlace := ["internal/abi.NoEscape"], apart := false }
def FnParamsStringSplitsAtEveryCutSaid : Prop := fnParamsStringSplitsAtEveryCutRow.holds Try.pinned (OpenSpec.ofChange fnParamsStringSplitsAtEveryCutSpec)

/-- ITS FALSE NEIGHBOUR: 'it returns false'. Refute it at one input. -/
def fnParamsStringSplitsAtEveryCutWrong : ChangeSpec := { name := "fnParamsStringSplitsAtEveryCut", fn := fun _ => fun
  | [d1, d2, d3] => { results := [.lit (.bool false)], args := [d1, d2, d3] }
  | _ => none }
def FnParamsStringSplitsAtEveryCutWrongFalsely : Prop := fnParamsStringSplitsAtEveryCutRow.holds Try.pinned (OpenSpec.ofChange fnParamsStringSplitsAtEveryCutWrong)

end Rows
end Go.Proofs.Qxb6601512a
