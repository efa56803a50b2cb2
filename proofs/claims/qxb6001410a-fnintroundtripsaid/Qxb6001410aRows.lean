/-
  No cell of these rows narrows 'for every input' (looked for: loops, veiled, ifaces, maps, wideKeys, modest, calm, conditions, laid).
  DERIVED. THE GIVEN ROWS OF THIS SEAT. 8 by the template 'for every input the law returns true; each argument reads behind the call as it read before'; 0 by the template 'total and deterministic' (their statements: Qxb6001410aTotals.lean).
  GIVEN WITH THE SEED: the statements are not yours to turn. If you find one false, say at which input.
  Laid BY PROGRAM, IN A SANDBOX (cutbox-rows.mjs): the forced cells as the released guide's own fill.sh prints them over the translation 5a0ad22bf3640886… (all of the seat's roots in one cut). By AI agents, Wed Nov 11 2026. No macro, syntax, notation, axiom, sorry.
-/
import Derived.Test.Qxb6001410aChecked
import GoSem.Claim
import GoSem.ClaimJoined
import GoSem.ClaimMapViews
import Derived.JoinedTies
import Derived.KernelRfl
namespace Go.Proofs.Qxb6001410a
/- THE CELL 'sum', in the pinned program and in every row, IS THE sha256 OF THE DUMP (.gsa) THAT Qxb6001410aProg.lean LOADS. Nothing in Lean hashes anything: it is a label: what it is worth is what the hold of that sum in a sandbox is worth. -/
noncomputable def Try.pinned : Pinned := { name := "qxb6001410a", sum := "5a0ad22bf3640886d734739c5356309d83009da0cf34df12d919e960b886d069", checked := Try.checked }
namespace Rows
def none {H : Type} : Left H := { results := [], args := [] }

/-- 'zzlaws_pkg_protocol_b1.FnBlankConcat': WHATEVER THE INPUT: true; the input reads as it did. -/
def fnBlankConcatSpec : ChangeSpec := { name := "fnBlankConcat", fn := fun _ => fun
  | [d1, d2] => { results := [.lit (.bool true)], args := [d1, d2] }
  | _ => none }
def fnBlankConcatRow : OpenClaim := { program := "qxb6001410a", sum := "5a0ad22bf3640886d734739c5356309d83009da0cf34df12d919e960b886d069", func := "example.com/escrowbus/escrowbus/zzlaws_pkg_protocol_b1.FnBlankConcat", spec := "fnBlankConcat", apart := false }
def FnBlankConcatSaid : Prop := fnBlankConcatRow.holds Try.pinned (OpenSpec.ofChange fnBlankConcatSpec)

/-- ITS FALSE NEIGHBOUR: 'it returns false'. Refute it at one input. -/
def fnBlankConcatWrong : ChangeSpec := { name := "fnBlankConcat", fn := fun _ => fun
  | [d1, d2] => { results := [.lit (.bool false)], args := [d1, d2] }
  | _ => none }
def FnBlankConcatWrongFalsely : Prop := fnBlankConcatRow.holds Try.pinned (OpenSpec.ofChange fnBlankConcatWrong)

/-- 'zzlaws_pkg_protocol_b1.FnBlankReadsNoInt': WHATEVER THE INPUT: true; the input reads as it did. -/
def fnBlankReadsNoIntSpec : ChangeSpec := { name := "fnBlankReadsNoInt", fn := fun _ => fun
  | [d1, d2, d3] => { results := [.lit (.bool true)], args := [d1, d2, d3] }
  | _ => none }
def fnBlankReadsNoIntRow : OpenClaim := { program := "qxb6001410a", sum := "5a0ad22bf3640886d734739c5356309d83009da0cf34df12d919e960b886d069", func := "example.com/escrowbus/escrowbus/zzlaws_pkg_protocol_b1.FnBlankReadsNoInt", spec := "fnBlankReadsNoInt", apart := false }
def FnBlankReadsNoIntSaid : Prop := fnBlankReadsNoIntRow.holds Try.pinned (OpenSpec.ofChange fnBlankReadsNoIntSpec)

/-- ITS FALSE NEIGHBOUR: 'it returns false'. Refute it at one input. -/
def fnBlankReadsNoIntWrong : ChangeSpec := { name := "fnBlankReadsNoInt", fn := fun _ => fun
  | [d1, d2, d3] => { results := [.lit (.bool false)], args := [d1, d2, d3] }
  | _ => none }
def FnBlankReadsNoIntWrongFalsely : Prop := fnBlankReadsNoIntRow.holds Try.pinned (OpenSpec.ofChange fnBlankReadsNoIntWrong)

/-- 'zzlaws_pkg_protocol_b1.FnIntBlankPrefixShift': WHATEVER THE INPUT: true; the input reads as it did. -/
def fnIntBlankPrefixShiftSpec : ChangeSpec := { name := "fnIntBlankPrefixShift", fn := fun _ => fun
  | [d1, d2, d3] => { results := [.lit (.bool true)], args := [d1, d2, d3] }
  | _ => none }
def fnIntBlankPrefixShiftRow : OpenClaim := { program := "qxb6001410a", sum := "5a0ad22bf3640886d734739c5356309d83009da0cf34df12d919e960b886d069", func := "example.com/escrowbus/escrowbus/zzlaws_pkg_protocol_b1.FnIntBlankPrefixShift", spec := "fnIntBlankPrefixShift", apart := false }
def FnIntBlankPrefixShiftSaid : Prop := fnIntBlankPrefixShiftRow.holds Try.pinned (OpenSpec.ofChange fnIntBlankPrefixShiftSpec)

/-- ITS FALSE NEIGHBOUR: 'it returns false'. Refute it at one input. -/
def fnIntBlankPrefixShiftWrong : ChangeSpec := { name := "fnIntBlankPrefixShift", fn := fun _ => fun
  | [d1, d2, d3] => { results := [.lit (.bool false)], args := [d1, d2, d3] }
  | _ => none }
def FnIntBlankPrefixShiftWrongFalsely : Prop := fnIntBlankPrefixShiftRow.holds Try.pinned (OpenSpec.ofChange fnIntBlankPrefixShiftWrong)

/-- 'zzlaws_pkg_protocol_b1.FnIntRoundTrip': WHATEVER THE INPUT: true; the input reads as it did. -/
def fnIntRoundTripSpec : ChangeSpec := { name := "fnIntRoundTrip", fn := fun _ => fun
  | [d1, d2, d3, d4] => { results := [.lit (.bool true)], args := [d1, d2, d3, d4] }
  | _ => none }
def fnIntRoundTripRow : OpenClaim := { program := "qxb6001410a", sum := "5a0ad22bf3640886d734739c5356309d83009da0cf34df12d919e960b886d069", func := "example.com/escrowbus/escrowbus/zzlaws_pkg_protocol_b1.FnIntRoundTrip", spec := "fnIntRoundTrip", apart := false }
def FnIntRoundTripSaid : Prop := fnIntRoundTripRow.holds Try.pinned (OpenSpec.ofChange fnIntRoundTripSpec)

/-- ITS FALSE NEIGHBOUR: 'it returns false'. Refute it at one input. -/
def fnIntRoundTripWrong : ChangeSpec := { name := "fnIntRoundTrip", fn := fun _ => fun
  | [d1, d2, d3, d4] => { results := [.lit (.bool false)], args := [d1, d2, d3, d4] }
  | _ => none }
def FnIntRoundTripWrongFalsely : Prop := fnIntRoundTripRow.holds Try.pinned (OpenSpec.ofChange fnIntRoundTripWrong)

/-- 'zzlaws_pkg_protocol_b1.FnIntAcceptsOnlyCanonical': WHATEVER THE INPUT: true; the input reads as it did. -/
def fnIntAcceptsOnlyCanonicalSpec : ChangeSpec := { name := "fnIntAcceptsOnlyCanonical", fn := fun _ => fun
  | [d1, d2, d3] => { results := [.lit (.bool true)], args := [d1, d2, d3] }
  | _ => none }
def fnIntAcceptsOnlyCanonicalRow : OpenClaim := { program := "qxb6001410a", sum := "5a0ad22bf3640886d734739c5356309d83009da0cf34df12d919e960b886d069", func := "example.com/escrowbus/escrowbus/zzlaws_pkg_protocol_b1.FnIntAcceptsOnlyCanonical", spec := "fnIntAcceptsOnlyCanonical", apart := false }
def FnIntAcceptsOnlyCanonicalSaid : Prop := fnIntAcceptsOnlyCanonicalRow.holds Try.pinned (OpenSpec.ofChange fnIntAcceptsOnlyCanonicalSpec)

/-- ITS FALSE NEIGHBOUR: 'it returns false'. Refute it at one input. -/
def fnIntAcceptsOnlyCanonicalWrong : ChangeSpec := { name := "fnIntAcceptsOnlyCanonical", fn := fun _ => fun
  | [d1, d2, d3] => { results := [.lit (.bool false)], args := [d1, d2, d3] }
  | _ => none }
def FnIntAcceptsOnlyCanonicalWrongFalsely : Prop := fnIntAcceptsOnlyCanonicalRow.holds Try.pinned (OpenSpec.ofChange fnIntAcceptsOnlyCanonicalWrong)

/-- 'zzlaws_pkg_protocol_b1.FnHex4RoundTrip': WHATEVER THE INPUT: true; the input reads as it did. -/
def fnHex4RoundTripSpec : ChangeSpec := { name := "fnHex4RoundTrip", fn := fun _ => fun
  | [d1, d2, d3] => { results := [.lit (.bool true)], args := [d1, d2, d3] }
  | _ => none }
def fnHex4RoundTripRow : OpenClaim := { program := "qxb6001410a", sum := "5a0ad22bf3640886d734739c5356309d83009da0cf34df12d919e960b886d069", func := "example.com/escrowbus/escrowbus/zzlaws_pkg_protocol_b1.FnHex4RoundTrip", spec := "fnHex4RoundTrip", apart := false }
def FnHex4RoundTripSaid : Prop := fnHex4RoundTripRow.holds Try.pinned (OpenSpec.ofChange fnHex4RoundTripSpec)

/-- ITS FALSE NEIGHBOUR: 'it returns false'. Refute it at one input. -/
def fnHex4RoundTripWrong : ChangeSpec := { name := "fnHex4RoundTrip", fn := fun _ => fun
  | [d1, d2, d3] => { results := [.lit (.bool false)], args := [d1, d2, d3] }
  | _ => none }
def FnHex4RoundTripWrongFalsely : Prop := fnHex4RoundTripRow.holds Try.pinned (OpenSpec.ofChange fnHex4RoundTripWrong)

/-- 'zzlaws_pkg_protocol_b1.FnHex4RangeAndPrefix': WHATEVER THE INPUT: true; the input reads as it did. -/
def fnHex4RangeAndPrefixSpec : ChangeSpec := { name := "fnHex4RangeAndPrefix", fn := fun _ => fun
  | [d] => { results := [.lit (.bool true)], args := [d] }
  | _ => none }
def fnHex4RangeAndPrefixRow : OpenClaim := { program := "qxb6001410a", sum := "5a0ad22bf3640886d734739c5356309d83009da0cf34df12d919e960b886d069", func := "example.com/escrowbus/escrowbus/zzlaws_pkg_protocol_b1.FnHex4RangeAndPrefix", spec := "fnHex4RangeAndPrefix", apart := false }
def FnHex4RangeAndPrefixSaid : Prop := fnHex4RangeAndPrefixRow.holds Try.pinned (OpenSpec.ofChange fnHex4RangeAndPrefixSpec)

/-- ITS FALSE NEIGHBOUR: 'it returns false'. Refute it at one input. -/
def fnHex4RangeAndPrefixWrong : ChangeSpec := { name := "fnHex4RangeAndPrefix", fn := fun _ => fun
  | [d] => { results := [.lit (.bool false)], args := [d] }
  | _ => none }
def FnHex4RangeAndPrefixWrongFalsely : Prop := fnHex4RangeAndPrefixRow.holds Try.pinned (OpenSpec.ofChange fnHex4RangeAndPrefixWrong)

/-- 'zzlaws_pkg_protocol_b1.FnHex4CaseBlindInjective': WHATEVER THE INPUT: true; the input reads as it did. -/
def fnHex4CaseBlindInjectiveSpec : ChangeSpec := { name := "fnHex4CaseBlindInjective", fn := fun _ => fun
  | [d1, d2] => { results := [.lit (.bool true)], args := [d1, d2] }
  | _ => none }
def fnHex4CaseBlindInjectiveRow : OpenClaim := { program := "qxb6001410a", sum := "5a0ad22bf3640886d734739c5356309d83009da0cf34df12d919e960b886d069", func := "example.com/escrowbus/escrowbus/zzlaws_pkg_protocol_b1.FnHex4CaseBlindInjective", spec := "fnHex4CaseBlindInjective", apart := false }
def FnHex4CaseBlindInjectiveSaid : Prop := fnHex4CaseBlindInjectiveRow.holds Try.pinned (OpenSpec.ofChange fnHex4CaseBlindInjectiveSpec)

/-- ITS FALSE NEIGHBOUR: 'it returns false'. Refute it at one input. -/
def fnHex4CaseBlindInjectiveWrong : ChangeSpec := { name := "fnHex4CaseBlindInjective", fn := fun _ => fun
  | [d1, d2] => { results := [.lit (.bool false)], args := [d1, d2] }
  | _ => none }
def FnHex4CaseBlindInjectiveWrongFalsely : Prop := fnHex4CaseBlindInjectiveRow.holds Try.pinned (OpenSpec.ofChange fnHex4CaseBlindInjectiveWrong)

end Rows
end Go.Proofs.Qxb6001410a
