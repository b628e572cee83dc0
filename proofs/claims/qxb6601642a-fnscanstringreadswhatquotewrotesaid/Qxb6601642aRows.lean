/-
  No cell of these rows narrows 'for every input' (looked for: loops, veiled, ifaces, maps, wideKeys, modest, calm, conditions, laid).
  DERIVED. THE GIVEN ROWS OF THIS SEAT. 5 by the template 'for every input the law returns true; each argument reads behind the call as it read before'; 0 by the template 'total and deterministic' (their statements: Qxb6601642aTotals.lean).
  GIVEN WITH THE SEED: the statements are not yours to turn. If you find one false, say at which input.
  Laid BY PROGRAM, IN A SANDBOX (cutbox-rows.mjs): the forced cells as the released guide's own fill.sh prints them over the translation 7dfcdd0381c58d4a… (all of the seat's roots in one cut). By AI agents, Wed Nov 11 2026. No macro, syntax, notation, axiom, sorry.
-/
import Derived.Test.Qxb6601642aChecked
import GoSem.Claim
import GoSem.ClaimJoined
import GoSem.ClaimMapViews
import Derived.JoinedTies
import Derived.KernelRfl
namespace Go.Proofs.Qxb6601642a
/- THE CELL 'sum', in the pinned program and in every row, IS THE sha256 OF THE DUMP (.gsa) THAT Qxb6601642aProg.lean LOADS. Nothing in Lean hashes anything: it is a label: what it is worth is what the hold of that sum in a sandbox is worth. -/
noncomputable def Try.pinned : Pinned := { name := "qxb6601642a", sum := "7dfcdd0381c58d4aa399c533e32378dcfab1a3baa6d923a913cca1fe8020e80e", checked := Try.checked }
namespace Rows
def none {H : Type} : Left H := { results := [], args := [] }

/-- 'zzlaws_internal_parser_b1.FnSkipSpaceAndCommentsMatchesAutomaton': WHATEVER THE INPUT: true; the input reads as it did. -/
def fnSkipSpaceAndCommentsMatchesAutomatonSpec : ChangeSpec := { name := "fnSkipSpaceAndCommentsMatchesAutomaton", fn := fun _ => fun
  | [d1, d2] => { results := [.lit (.bool true)], args := [d1, d2] }
  | _ => none }
def fnSkipSpaceAndCommentsMatchesAutomatonRow : OpenClaim := { program := "qxb6601642a", sum := "7dfcdd0381c58d4aa399c533e32378dcfab1a3baa6d923a913cca1fe8020e80e", func := "example.com/sightline/sightline/zzlaws_internal_parser_b1.FnSkipSpaceAndCommentsMatchesAutomaton", spec := "fnSkipSpaceAndCommentsMatchesAutomaton", inPlace := ["internal/bytealg.IndexByteString", "internal/bytealg.IndexString"], named := ["internal/bytealg.MaxLen"], apart := false }
def FnSkipSpaceAndCommentsMatchesAutomatonSaid : Prop := fnSkipSpaceAndCommentsMatchesAutomatonRow.holds Try.pinned (OpenSpec.ofChange fnSkipSpaceAndCommentsMatchesAutomatonSpec)

/-- ITS FALSE NEIGHBOUR: 'it returns false'. Refute it at one input. -/
def fnSkipSpaceAndCommentsMatchesAutomatonWrong : ChangeSpec := { name := "fnSkipSpaceAndCommentsMatchesAutomaton", fn := fun _ => fun
  | [d1, d2] => { results := [.lit (.bool false)], args := [d1, d2] }
  | _ => none }
def FnSkipSpaceAndCommentsMatchesAutomatonWrongFalsely : Prop := fnSkipSpaceAndCommentsMatchesAutomatonRow.holds Try.pinned (OpenSpec.ofChange fnSkipSpaceAndCommentsMatchesAutomatonWrong)

/-- 'zzlaws_internal_parser_b1.FnSkipSpaceAndCommentsIdempotent': WHATEVER THE INPUT: true; the input reads as it did. -/
def fnSkipSpaceAndCommentsIdempotentSpec : ChangeSpec := { name := "fnSkipSpaceAndCommentsIdempotent", fn := fun _ => fun
  | [d1, d2] => { results := [.lit (.bool true)], args := [d1, d2] }
  | _ => none }
def fnSkipSpaceAndCommentsIdempotentRow : OpenClaim := { program := "qxb6601642a", sum := "7dfcdd0381c58d4aa399c533e32378dcfab1a3baa6d923a913cca1fe8020e80e", func := "example.com/sightline/sightline/zzlaws_internal_parser_b1.FnSkipSpaceAndCommentsIdempotent", spec := "fnSkipSpaceAndCommentsIdempotent", inPlace := ["internal/bytealg.IndexByteString", "internal/bytealg.IndexString"], named := ["internal/bytealg.MaxLen"], apart := false }
def FnSkipSpaceAndCommentsIdempotentSaid : Prop := fnSkipSpaceAndCommentsIdempotentRow.holds Try.pinned (OpenSpec.ofChange fnSkipSpaceAndCommentsIdempotentSpec)

/-- ITS FALSE NEIGHBOUR: 'it returns false'. Refute it at one input. -/
def fnSkipSpaceAndCommentsIdempotentWrong : ChangeSpec := { name := "fnSkipSpaceAndCommentsIdempotent", fn := fun _ => fun
  | [d1, d2] => { results := [.lit (.bool false)], args := [d1, d2] }
  | _ => none }
def FnSkipSpaceAndCommentsIdempotentWrongFalsely : Prop := fnSkipSpaceAndCommentsIdempotentRow.holds Try.pinned (OpenSpec.ofChange fnSkipSpaceAndCommentsIdempotentWrong)

/-- 'zzlaws_internal_parser_b1.FnSkipSpaceAndCommentsShiftInvariant': WHATEVER THE INPUT: true; the input reads as it did. -/
def fnSkipSpaceAndCommentsShiftInvariantSpec : ChangeSpec := { name := "fnSkipSpaceAndCommentsShiftInvariant", fn := fun _ => fun
  | [d1, d2, d3] => { results := [.lit (.bool true)], args := [d1, d2, d3] }
  | _ => none }
def fnSkipSpaceAndCommentsShiftInvariantRow : OpenClaim := { program := "qxb6601642a", sum := "7dfcdd0381c58d4aa399c533e32378dcfab1a3baa6d923a913cca1fe8020e80e", func := "example.com/sightline/sightline/zzlaws_internal_parser_b1.FnSkipSpaceAndCommentsShiftInvariant", spec := "fnSkipSpaceAndCommentsShiftInvariant", inPlace := ["internal/bytealg.IndexByteString", "internal/bytealg.IndexString"], named := ["internal/bytealg.MaxLen"], apart := false }
def FnSkipSpaceAndCommentsShiftInvariantSaid : Prop := fnSkipSpaceAndCommentsShiftInvariantRow.holds Try.pinned (OpenSpec.ofChange fnSkipSpaceAndCommentsShiftInvariantSpec)

/-- ITS FALSE NEIGHBOUR: 'it returns false'. Refute it at one input. -/
def fnSkipSpaceAndCommentsShiftInvariantWrong : ChangeSpec := { name := "fnSkipSpaceAndCommentsShiftInvariant", fn := fun _ => fun
  | [d1, d2, d3] => { results := [.lit (.bool false)], args := [d1, d2, d3] }
  | _ => none }
def FnSkipSpaceAndCommentsShiftInvariantWrongFalsely : Prop := fnSkipSpaceAndCommentsShiftInvariantRow.holds Try.pinned (OpenSpec.ofChange fnSkipSpaceAndCommentsShiftInvariantWrong)

/-- 'zzlaws_internal_parser_b1.FnScanStringReadsWhatQuoteWrote': WHATEVER THE INPUT: true; the input reads as it did. -/
def fnScanStringReadsWhatQuoteWroteSpec : ChangeSpec := { name := "fnScanStringReadsWhatQuoteWrote", fn := fun _ => fun
  | [d1, d2, d3, d4, d5] => { results := [.lit (.bool true)], args := [d1, d2, d3, d4, d5] }
  | _ => none }
def fnScanStringReadsWhatQuoteWroteRow : OpenClaim := { program := "qxb6601642a", sum := "7dfcdd0381c58d4aa399c533e32378dcfab1a3baa6d923a913cca1fe8020e80e", func := "example.com/sightline/sightline/zzlaws_internal_parser_b1.FnScanStringReadsWhatQuoteWrote", spec := "fnScanStringReadsWhatQuoteWrote", inPlace := ["internal/abi.NoEscape"], apart := false }
def FnScanStringReadsWhatQuoteWroteSaid : Prop := fnScanStringReadsWhatQuoteWroteRow.holds Try.pinned (OpenSpec.ofChange fnScanStringReadsWhatQuoteWroteSpec)

/-- ITS FALSE NEIGHBOUR: 'it returns false'. Refute it at one input. -/
def fnScanStringReadsWhatQuoteWroteWrong : ChangeSpec := { name := "fnScanStringReadsWhatQuoteWrote", fn := fun _ => fun
  | [d1, d2, d3, d4, d5] => { results := [.lit (.bool false)], args := [d1, d2, d3, d4, d5] }
  | _ => none }
def FnScanStringReadsWhatQuoteWroteWrongFalsely : Prop := fnScanStringReadsWhatQuoteWroteRow.holds Try.pinned (OpenSpec.ofChange fnScanStringReadsWhatQuoteWroteWrong)

/-- 'zzlaws_internal_parser_b1.FnScanStringIgnoresWhatFollows': WHATEVER THE INPUT: true; the input reads as it did. -/
def fnScanStringIgnoresWhatFollowsSpec : ChangeSpec := { name := "fnScanStringIgnoresWhatFollows", fn := fun _ => fun
  | [d1, d2, d3, d4] => { results := [.lit (.bool true)], args := [d1, d2, d3, d4] }
  | _ => none }
def fnScanStringIgnoresWhatFollowsRow : OpenClaim := { program := "qxb6601642a", sum := "7dfcdd0381c58d4aa399c533e32378dcfab1a3baa6d923a913cca1fe8020e80e", func := "example.com/sightline/sightline/zzlaws_internal_parser_b1.FnScanStringIgnoresWhatFollows", spec := "fnScanStringIgnoresWhatFollows", inPlace := ["internal/abi.NoEscape"], apart := false }
def FnScanStringIgnoresWhatFollowsSaid : Prop := fnScanStringIgnoresWhatFollowsRow.holds Try.pinned (OpenSpec.ofChange fnScanStringIgnoresWhatFollowsSpec)

/-- ITS FALSE NEIGHBOUR: 'it returns false'. Refute it at one input. -/
def fnScanStringIgnoresWhatFollowsWrong : ChangeSpec := { name := "fnScanStringIgnoresWhatFollows", fn := fun _ => fun
  | [d1, d2, d3, d4] => { results := [.lit (.bool false)], args := [d1, d2, d3, d4] }
  | _ => none }
def FnScanStringIgnoresWhatFollowsWrongFalsely : Prop := fnScanStringIgnoresWhatFollowsRow.holds Try.pinned (OpenSpec.ofChange fnScanStringIgnoresWhatFollowsWrong)

end Rows
end Go.Proofs.Qxb6601642a
