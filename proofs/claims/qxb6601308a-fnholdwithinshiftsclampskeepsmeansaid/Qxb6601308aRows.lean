/-
  No cell of these rows narrows 'for every input' (looked for: loops, veiled, ifaces, maps, wideKeys, modest, calm, conditions, laid).
  DERIVED. THE GIVEN ROWS OF THIS SEAT. 7 by the template 'for every input the law returns true; each argument reads behind the call as it read before'; 0 by the template 'total and deterministic' (their statements: Qxb6601308aTotals.lean).
  GIVEN WITH THE SEED: the statements are not yours to turn. If you find one false, say at which input.
  Laid BY PROGRAM, IN A SANDBOX (cutbox-rows.mjs): the forced cells as the released guide's own fill.sh prints them over the translation 36e90fa81b6de9a9… (all of the seat's roots in one cut). By AI agents, Wed Nov 11 2026. No macro, syntax, notation, axiom, sorry.
-/
import Derived.Test.Qxb6601308aChecked
import GoSem.Claim
import GoSem.ClaimJoined
import GoSem.ClaimMapViews
import Derived.JoinedTies
import Derived.KernelRfl
namespace Go.Proofs.Qxb6601308a
/- THE CELL 'sum', in the pinned program and in every row, IS THE sha256 OF THE DUMP (.gsa) THAT Qxb6601308aProg.lean LOADS. Nothing in Lean hashes anything: it is a label: what it is worth is what the hold of that sum in a sandbox is worth. -/
noncomputable def Try.pinned : Pinned := { name := "qxb6601308a", sum := "36e90fa81b6de9a9bcf4edba4321e7e426b75a3ae56d2e04e1ad2271a939c012", checked := Try.checked }
namespace Rows
def none {H : Type} : Left H := { results := [], args := [] }

/-- 'zzlaws_root_b1.FnDefaultNeuronParamsArePhysical': WHATEVER THE INPUT: true; the input reads as it did. -/
def fnDefaultNeuronParamsArePhysicalSpec : ChangeSpec := { name := "fnDefaultNeuronParamsArePhysical", fn := fun _ => fun
  | [] => { results := [.lit (.bool true)], args := [] }
  | _ => none }
def fnDefaultNeuronParamsArePhysicalRow : OpenClaim := { program := "qxb6601308a", sum := "36e90fa81b6de9a9bcf4edba4321e7e426b75a3ae56d2e04e1ad2271a939c012", func := "example.com/betasso/betasso/zzlaws_root_b1.FnDefaultNeuronParamsArePhysical", spec := "fnDefaultNeuronParamsArePhysical", apart := false }
def FnDefaultNeuronParamsArePhysicalSaid : Prop := fnDefaultNeuronParamsArePhysicalRow.holds Try.pinned (OpenSpec.ofChange fnDefaultNeuronParamsArePhysicalSpec)

/-- ITS FALSE NEIGHBOUR: 'it returns false'. Refute it at one input. -/
def fnDefaultNeuronParamsArePhysicalWrong : ChangeSpec := { name := "fnDefaultNeuronParamsArePhysical", fn := fun _ => fun
  | [] => { results := [.lit (.bool false)], args := [] }
  | _ => none }
def FnDefaultNeuronParamsArePhysicalWrongFalsely : Prop := fnDefaultNeuronParamsArePhysicalRow.holds Try.pinned (OpenSpec.ofChange fnDefaultNeuronParamsArePhysicalWrong)

/-- 'zzlaws_root_b1.FnHoldWithinShiftsClampsKeepsMean': WHATEVER THE INPUT: true; the input reads as it did. -/
def fnHoldWithinShiftsClampsKeepsMeanSpec : ChangeSpec := { name := "fnHoldWithinShiftsClampsKeepsMean", fn := fun _ => fun
  | [d1, d2, d3] => { results := [.lit (.bool true)], args := [d1, d2, d3] }
  | _ => none }
def fnHoldWithinShiftsClampsKeepsMeanRow : OpenClaim := { program := "qxb6601308a", sum := "36e90fa81b6de9a9bcf4edba4321e7e426b75a3ae56d2e04e1ad2271a939c012", func := "example.com/betasso/betasso/zzlaws_root_b1.FnHoldWithinShiftsClampsKeepsMean", spec := "fnHoldWithinShiftsClampsKeepsMean", unfollowed := true, recurses := true, apart := false }
def FnHoldWithinShiftsClampsKeepsMeanSaid : Prop := fnHoldWithinShiftsClampsKeepsMeanRow.holds Try.pinned (OpenSpec.ofChange fnHoldWithinShiftsClampsKeepsMeanSpec)

/-- ITS FALSE NEIGHBOUR: 'it returns false'. Refute it at one input. -/
def fnHoldWithinShiftsClampsKeepsMeanWrong : ChangeSpec := { name := "fnHoldWithinShiftsClampsKeepsMean", fn := fun _ => fun
  | [d1, d2, d3] => { results := [.lit (.bool false)], args := [d1, d2, d3] }
  | _ => none }
def FnHoldWithinShiftsClampsKeepsMeanWrongFalsely : Prop := fnHoldWithinShiftsClampsKeepsMeanRow.holds Try.pinned (OpenSpec.ofChange fnHoldWithinShiftsClampsKeepsMeanWrong)

/-- 'zzlaws_root_b1.FnHoldWithinInRangeAndOrderKept': WHATEVER THE INPUT: true; the input reads as it did. -/
def fnHoldWithinInRangeAndOrderKeptSpec : ChangeSpec := { name := "fnHoldWithinInRangeAndOrderKept", fn := fun _ => fun
  | [d1, d2, d3] => { results := [.lit (.bool true)], args := [d1, d2, d3] }
  | _ => none }
def fnHoldWithinInRangeAndOrderKeptRow : OpenClaim := { program := "qxb6601308a", sum := "36e90fa81b6de9a9bcf4edba4321e7e426b75a3ae56d2e04e1ad2271a939c012", func := "example.com/betasso/betasso/zzlaws_root_b1.FnHoldWithinInRangeAndOrderKept", spec := "fnHoldWithinInRangeAndOrderKept", unfollowed := true, recurses := true, apart := false }
def FnHoldWithinInRangeAndOrderKeptSaid : Prop := fnHoldWithinInRangeAndOrderKeptRow.holds Try.pinned (OpenSpec.ofChange fnHoldWithinInRangeAndOrderKeptSpec)

/-- ITS FALSE NEIGHBOUR: 'it returns false'. Refute it at one input. -/
def fnHoldWithinInRangeAndOrderKeptWrong : ChangeSpec := { name := "fnHoldWithinInRangeAndOrderKept", fn := fun _ => fun
  | [d1, d2, d3] => { results := [.lit (.bool false)], args := [d1, d2, d3] }
  | _ => none }
def FnHoldWithinInRangeAndOrderKeptWrongFalsely : Prop := fnHoldWithinInRangeAndOrderKeptRow.holds Try.pinned (OpenSpec.ofChange fnHoldWithinInRangeAndOrderKeptWrong)

/-- 'zzlaws_root_b1.FnHoldWithinIdempotent': WHATEVER THE INPUT: true; the input reads as it did. -/
def fnHoldWithinIdempotentSpec : ChangeSpec := { name := "fnHoldWithinIdempotent", fn := fun _ => fun
  | [d1, d2, d3] => { results := [.lit (.bool true)], args := [d1, d2, d3] }
  | _ => none }
def fnHoldWithinIdempotentRow : OpenClaim := { program := "qxb6601308a", sum := "36e90fa81b6de9a9bcf4edba4321e7e426b75a3ae56d2e04e1ad2271a939c012", func := "example.com/betasso/betasso/zzlaws_root_b1.FnHoldWithinIdempotent", spec := "fnHoldWithinIdempotent", unfollowed := true, recurses := true, apart := false }
def FnHoldWithinIdempotentSaid : Prop := fnHoldWithinIdempotentRow.holds Try.pinned (OpenSpec.ofChange fnHoldWithinIdempotentSpec)

/-- ITS FALSE NEIGHBOUR: 'it returns false'. Refute it at one input. -/
def fnHoldWithinIdempotentWrong : ChangeSpec := { name := "fnHoldWithinIdempotent", fn := fun _ => fun
  | [d1, d2, d3] => { results := [.lit (.bool false)], args := [d1, d2, d3] }
  | _ => none }
def FnHoldWithinIdempotentWrongFalsely : Prop := fnHoldWithinIdempotentRow.holds Try.pinned (OpenSpec.ofChange fnHoldWithinIdempotentWrong)

/-- 'zzlaws_root_b1.FnAdvanceMatchesStretchModel': WHATEVER THE INPUT: true; the input reads as it did. -/
def fnAdvanceMatchesStretchModelSpec : ChangeSpec := { name := "fnAdvanceMatchesStretchModel", fn := fun _ => fun
  | [d1, d2, d3, d4, d5, d6] => { results := [.lit (.bool true)], args := [d1, d2, d3, d4, d5, d6] }
  | _ => none }
def fnAdvanceMatchesStretchModelRow : OpenClaim := { program := "qxb6601308a", sum := "36e90fa81b6de9a9bcf4edba4321e7e426b75a3ae56d2e04e1ad2271a939c012", func := "example.com/betasso/betasso/zzlaws_root_b1.FnAdvanceMatchesStretchModel", spec := "fnAdvanceMatchesStretchModel", apart := false }
def FnAdvanceMatchesStretchModelSaid : Prop := fnAdvanceMatchesStretchModelRow.holds Try.pinned (OpenSpec.ofChange fnAdvanceMatchesStretchModelSpec)

/-- ITS FALSE NEIGHBOUR: 'it returns false'. Refute it at one input. -/
def fnAdvanceMatchesStretchModelWrong : ChangeSpec := { name := "fnAdvanceMatchesStretchModel", fn := fun _ => fun
  | [d1, d2, d3, d4, d5, d6] => { results := [.lit (.bool false)], args := [d1, d2, d3, d4, d5, d6] }
  | _ => none }
def FnAdvanceMatchesStretchModelWrongFalsely : Prop := fnAdvanceMatchesStretchModelRow.holds Try.pinned (OpenSpec.ofChange fnAdvanceMatchesStretchModelWrong)

/-- 'zzlaws_root_b1.FnAdvanceQuietNeuronKeepsCalcium': WHATEVER THE INPUT: true; the input reads as it did. -/
def fnAdvanceQuietNeuronKeepsCalciumSpec : ChangeSpec := { name := "fnAdvanceQuietNeuronKeepsCalcium", fn := fun _ => fun
  | [d1, d2, d3, d4, d5, d6] => { results := [.lit (.bool true)], args := [d1, d2, d3, d4, d5, d6] }
  | _ => none }
def fnAdvanceQuietNeuronKeepsCalciumRow : OpenClaim := { program := "qxb6601308a", sum := "36e90fa81b6de9a9bcf4edba4321e7e426b75a3ae56d2e04e1ad2271a939c012", func := "example.com/betasso/betasso/zzlaws_root_b1.FnAdvanceQuietNeuronKeepsCalcium", spec := "fnAdvanceQuietNeuronKeepsCalcium", apart := false }
def FnAdvanceQuietNeuronKeepsCalciumSaid : Prop := fnAdvanceQuietNeuronKeepsCalciumRow.holds Try.pinned (OpenSpec.ofChange fnAdvanceQuietNeuronKeepsCalciumSpec)

/-- ITS FALSE NEIGHBOUR: 'it returns false'. Refute it at one input. -/
def fnAdvanceQuietNeuronKeepsCalciumWrong : ChangeSpec := { name := "fnAdvanceQuietNeuronKeepsCalcium", fn := fun _ => fun
  | [d1, d2, d3, d4, d5, d6] => { results := [.lit (.bool false)], args := [d1, d2, d3, d4, d5, d6] }
  | _ => none }
def FnAdvanceQuietNeuronKeepsCalciumWrongFalsely : Prop := fnAdvanceQuietNeuronKeepsCalciumRow.holds Try.pinned (OpenSpec.ofChange fnAdvanceQuietNeuronKeepsCalciumWrong)

/-- 'zzlaws_root_b1.FnAdvanceIgnoresCaSynOfInactiveEvents': WHATEVER THE INPUT: true; the input reads as it did. -/
def fnAdvanceIgnoresCaSynOfInactiveEventsSpec : ChangeSpec := { name := "fnAdvanceIgnoresCaSynOfInactiveEvents", fn := fun _ => fun
  | [d1, d2, d3, d4, d5, d6] => { results := [.lit (.bool true)], args := [d1, d2, d3, d4, d5, d6] }
  | _ => none }
def fnAdvanceIgnoresCaSynOfInactiveEventsRow : OpenClaim := { program := "qxb6601308a", sum := "36e90fa81b6de9a9bcf4edba4321e7e426b75a3ae56d2e04e1ad2271a939c012", func := "example.com/betasso/betasso/zzlaws_root_b1.FnAdvanceIgnoresCaSynOfInactiveEvents", spec := "fnAdvanceIgnoresCaSynOfInactiveEvents", apart := false }
def FnAdvanceIgnoresCaSynOfInactiveEventsSaid : Prop := fnAdvanceIgnoresCaSynOfInactiveEventsRow.holds Try.pinned (OpenSpec.ofChange fnAdvanceIgnoresCaSynOfInactiveEventsSpec)

/-- ITS FALSE NEIGHBOUR: 'it returns false'. Refute it at one input. -/
def fnAdvanceIgnoresCaSynOfInactiveEventsWrong : ChangeSpec := { name := "fnAdvanceIgnoresCaSynOfInactiveEvents", fn := fun _ => fun
  | [d1, d2, d3, d4, d5, d6] => { results := [.lit (.bool false)], args := [d1, d2, d3, d4, d5, d6] }
  | _ => none }
def FnAdvanceIgnoresCaSynOfInactiveEventsWrongFalsely : Prop := fnAdvanceIgnoresCaSynOfInactiveEventsRow.holds Try.pinned (OpenSpec.ofChange fnAdvanceIgnoresCaSynOfInactiveEventsWrong)

end Rows
end Go.Proofs.Qxb6601308a
