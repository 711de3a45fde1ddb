/-
  No cell of these rows narrows 'for every input' (looked for: loops, veiled, ifaces, maps, wideKeys, modest, calm, conditions, laid).
  DERIVED. THE GIVEN ROWS OF THIS SEAT. 8 by the template 'for every input the law returns true; each argument reads behind the call as it read before'; 0 by the template 'total and deterministic' (their statements: Qxb6600505aTotals.lean).
  GIVEN WITH THE SEED: the statements are not yours to turn. If you find one false, say at which input.
  Laid BY PROGRAM, IN A SANDBOX (cutbox-rows.mjs): the forced cells as the released guide's own fill.sh prints them over the translation ac61e45a067ff6e3… (all of the seat's roots in one cut). By AI agents, Wed Nov 11 2026. No macro, syntax, notation, axiom, sorry.
-/
import Derived.Test.Qxb6600505aChecked
import GoSem.Claim
import GoSem.ClaimJoined
import GoSem.ClaimMapViews
import Derived.JoinedTies
import Derived.KernelRfl
namespace Go.Proofs.Qxb6600505a
/- THE CELL 'sum', in the pinned program and in every row, IS THE sha256 OF THE DUMP (.gsa) THAT Qxb6600505aProg.lean LOADS. Nothing in Lean hashes anything: it is a label: what it is worth is what the hold of that sum in a sandbox is worth. -/
noncomputable def Try.pinned : Pinned := { name := "qxb6600505a", sum := "ac61e45a067ff6e35b2d80356e6da857cadb7c9902962d314c04d912589bd847", checked := Try.checked }
namespace Rows
def none {H : Type} : Left H := { results := [], args := [] }

/-- 'zzlaws_api_b1.FnContainerMatchesPushdownModel': WHATEVER THE INPUT: true; the input reads as it did. -/
def fnContainerMatchesPushdownModelSpec : ChangeSpec := { name := "fnContainerMatchesPushdownModel", fn := fun _ => fun
  | [d1, d2, d3] => { results := [.lit (.bool true)], args := [d1, d2, d3] }
  | _ => none }
def fnContainerMatchesPushdownModelRow : OpenClaim := { program := "qxb6600505a", sum := "ac61e45a067ff6e35b2d80356e6da857cadb7c9902962d314c04d912589bd847", func := "example.com/ferry/ferry/zzlaws_api_b1.FnContainerMatchesPushdownModel", spec := "fnContainerMatchesPushdownModel", recurses := true, apart := false }
def FnContainerMatchesPushdownModelSaid : Prop := fnContainerMatchesPushdownModelRow.holds Try.pinned (OpenSpec.ofChange fnContainerMatchesPushdownModelSpec)

/-- ITS FALSE NEIGHBOUR: 'it returns false'. Refute it at one input. -/
def fnContainerMatchesPushdownModelWrong : ChangeSpec := { name := "fnContainerMatchesPushdownModel", fn := fun _ => fun
  | [d1, d2, d3] => { results := [.lit (.bool false)], args := [d1, d2, d3] }
  | _ => none }
def FnContainerMatchesPushdownModelWrongFalsely : Prop := fnContainerMatchesPushdownModelRow.holds Try.pinned (OpenSpec.ofChange fnContainerMatchesPushdownModelWrong)

/-- 'zzlaws_api_b1.FnContainerDepthLimit': WHATEVER THE INPUT: true; the input reads as it did. -/
def fnContainerDepthLimitSpec : ChangeSpec := { name := "fnContainerDepthLimit", fn := fun _ => fun
  | [d1, d2] => { results := [.lit (.bool true)], args := [d1, d2] }
  | _ => none }
def fnContainerDepthLimitRow : OpenClaim := { program := "qxb6600505a", sum := "ac61e45a067ff6e35b2d80356e6da857cadb7c9902962d314c04d912589bd847", func := "example.com/ferry/ferry/zzlaws_api_b1.FnContainerDepthLimit", spec := "fnContainerDepthLimit", recurses := true, apart := false }
def FnContainerDepthLimitSaid : Prop := fnContainerDepthLimitRow.holds Try.pinned (OpenSpec.ofChange fnContainerDepthLimitSpec)

/-- ITS FALSE NEIGHBOUR: 'it returns false'. Refute it at one input. -/
def fnContainerDepthLimitWrong : ChangeSpec := { name := "fnContainerDepthLimit", fn := fun _ => fun
  | [d1, d2] => { results := [.lit (.bool false)], args := [d1, d2] }
  | _ => none }
def FnContainerDepthLimitWrongFalsely : Prop := fnContainerDepthLimitRow.holds Try.pinned (OpenSpec.ofChange fnContainerDepthLimitWrong)

/-- 'zzlaws_api_b1.FnContainerCutOutAlone': WHATEVER THE INPUT: true; the input reads as it did. -/
def fnContainerCutOutAloneSpec : ChangeSpec := { name := "fnContainerCutOutAlone", fn := fun _ => fun
  | [d1, d2, d3] => { results := [.lit (.bool true)], args := [d1, d2, d3] }
  | _ => none }
def fnContainerCutOutAloneRow : OpenClaim := { program := "qxb6600505a", sum := "ac61e45a067ff6e35b2d80356e6da857cadb7c9902962d314c04d912589bd847", func := "example.com/ferry/ferry/zzlaws_api_b1.FnContainerCutOutAlone", spec := "fnContainerCutOutAlone", recurses := true, apart := false }
def FnContainerCutOutAloneSaid : Prop := fnContainerCutOutAloneRow.holds Try.pinned (OpenSpec.ofChange fnContainerCutOutAloneSpec)

/-- ITS FALSE NEIGHBOUR: 'it returns false'. Refute it at one input. -/
def fnContainerCutOutAloneWrong : ChangeSpec := { name := "fnContainerCutOutAlone", fn := fun _ => fun
  | [d1, d2, d3] => { results := [.lit (.bool false)], args := [d1, d2, d3] }
  | _ => none }
def FnContainerCutOutAloneWrongFalsely : Prop := fnContainerCutOutAloneRow.holds Try.pinned (OpenSpec.ofChange fnContainerCutOutAloneWrong)

/-- 'zzlaws_api_b1.FnStringMatchesAutomaton': WHATEVER THE INPUT: true; the input reads as it did. -/
def fnStringMatchesAutomatonSpec : ChangeSpec := { name := "fnStringMatchesAutomaton", fn := fun _ => fun
  | [d1, d2] => { results := [.lit (.bool true)], args := [d1, d2] }
  | _ => none }
def fnStringMatchesAutomatonRow : OpenClaim := { program := "qxb6600505a", sum := "ac61e45a067ff6e35b2d80356e6da857cadb7c9902962d314c04d912589bd847", func := "example.com/ferry/ferry/zzlaws_api_b1.FnStringMatchesAutomaton", spec := "fnStringMatchesAutomaton", apart := false }
def FnStringMatchesAutomatonSaid : Prop := fnStringMatchesAutomatonRow.holds Try.pinned (OpenSpec.ofChange fnStringMatchesAutomatonSpec)

/-- ITS FALSE NEIGHBOUR: 'it returns false'. Refute it at one input. -/
def fnStringMatchesAutomatonWrong : ChangeSpec := { name := "fnStringMatchesAutomaton", fn := fun _ => fun
  | [d1, d2] => { results := [.lit (.bool false)], args := [d1, d2] }
  | _ => none }
def FnStringMatchesAutomatonWrongFalsely : Prop := fnStringMatchesAutomatonRow.holds Try.pinned (OpenSpec.ofChange fnStringMatchesAutomatonWrong)

/-- 'zzlaws_api_b1.FnStringAcceptsItsEscaping': WHATEVER THE INPUT: true; the input reads as it did. -/
def fnStringAcceptsItsEscapingSpec : ChangeSpec := { name := "fnStringAcceptsItsEscaping", fn := fun _ => fun
  | [d1, d2] => { results := [.lit (.bool true)], args := [d1, d2] }
  | _ => none }
def fnStringAcceptsItsEscapingRow : OpenClaim := { program := "qxb6600505a", sum := "ac61e45a067ff6e35b2d80356e6da857cadb7c9902962d314c04d912589bd847", func := "example.com/ferry/ferry/zzlaws_api_b1.FnStringAcceptsItsEscaping", spec := "fnStringAcceptsItsEscaping", apart := false }
def FnStringAcceptsItsEscapingSaid : Prop := fnStringAcceptsItsEscapingRow.holds Try.pinned (OpenSpec.ofChange fnStringAcceptsItsEscapingSpec)

/-- ITS FALSE NEIGHBOUR: 'it returns false'. Refute it at one input. -/
def fnStringAcceptsItsEscapingWrong : ChangeSpec := { name := "fnStringAcceptsItsEscaping", fn := fun _ => fun
  | [d1, d2] => { results := [.lit (.bool false)], args := [d1, d2] }
  | _ => none }
def FnStringAcceptsItsEscapingWrongFalsely : Prop := fnStringAcceptsItsEscapingRow.holds Try.pinned (OpenSpec.ofChange fnStringAcceptsItsEscapingWrong)

/-- 'zzlaws_api_b1.FnStringRefusesRawControl': WHATEVER THE INPUT: true; the input reads as it did. -/
def fnStringRefusesRawControlSpec : ChangeSpec := { name := "fnStringRefusesRawControl", fn := fun _ => fun
  | [d1, d2, d3, d4] => { results := [.lit (.bool true)], args := [d1, d2, d3, d4] }
  | _ => none }
def fnStringRefusesRawControlRow : OpenClaim := { program := "qxb6600505a", sum := "ac61e45a067ff6e35b2d80356e6da857cadb7c9902962d314c04d912589bd847", func := "example.com/ferry/ferry/zzlaws_api_b1.FnStringRefusesRawControl", spec := "fnStringRefusesRawControl", apart := false }
def FnStringRefusesRawControlSaid : Prop := fnStringRefusesRawControlRow.holds Try.pinned (OpenSpec.ofChange fnStringRefusesRawControlSpec)

/-- ITS FALSE NEIGHBOUR: 'it returns false'. Refute it at one input. -/
def fnStringRefusesRawControlWrong : ChangeSpec := { name := "fnStringRefusesRawControl", fn := fun _ => fun
  | [d1, d2, d3, d4] => { results := [.lit (.bool false)], args := [d1, d2, d3, d4] }
  | _ => none }
def FnStringRefusesRawControlWrongFalsely : Prop := fnStringRefusesRawControlRow.holds Try.pinned (OpenSpec.ofChange fnStringRefusesRawControlWrong)

/-- 'zzlaws_api_b1.FnNumberMatchesAutomaton': WHATEVER THE INPUT: true; the input reads as it did. -/
def fnNumberMatchesAutomatonSpec : ChangeSpec := { name := "fnNumberMatchesAutomaton", fn := fun _ => fun
  | [d1, d2] => { results := [.lit (.bool true)], args := [d1, d2] }
  | _ => none }
def fnNumberMatchesAutomatonRow : OpenClaim := { program := "qxb6600505a", sum := "ac61e45a067ff6e35b2d80356e6da857cadb7c9902962d314c04d912589bd847", func := "example.com/ferry/ferry/zzlaws_api_b1.FnNumberMatchesAutomaton", spec := "fnNumberMatchesAutomaton", apart := false }
def FnNumberMatchesAutomatonSaid : Prop := fnNumberMatchesAutomatonRow.holds Try.pinned (OpenSpec.ofChange fnNumberMatchesAutomatonSpec)

/-- ITS FALSE NEIGHBOUR: 'it returns false'. Refute it at one input. -/
def fnNumberMatchesAutomatonWrong : ChangeSpec := { name := "fnNumberMatchesAutomaton", fn := fun _ => fun
  | [d1, d2] => { results := [.lit (.bool false)], args := [d1, d2] }
  | _ => none }
def FnNumberMatchesAutomatonWrongFalsely : Prop := fnNumberMatchesAutomatonRow.holds Try.pinned (OpenSpec.ofChange fnNumberMatchesAutomatonWrong)

/-- 'zzlaws_api_b1.FnNumberCutOutAlone': WHATEVER THE INPUT: true; the input reads as it did. -/
def fnNumberCutOutAloneSpec : ChangeSpec := { name := "fnNumberCutOutAlone", fn := fun _ => fun
  | [d1, d2] => { results := [.lit (.bool true)], args := [d1, d2] }
  | _ => none }
def fnNumberCutOutAloneRow : OpenClaim := { program := "qxb6600505a", sum := "ac61e45a067ff6e35b2d80356e6da857cadb7c9902962d314c04d912589bd847", func := "example.com/ferry/ferry/zzlaws_api_b1.FnNumberCutOutAlone", spec := "fnNumberCutOutAlone", apart := false }
def FnNumberCutOutAloneSaid : Prop := fnNumberCutOutAloneRow.holds Try.pinned (OpenSpec.ofChange fnNumberCutOutAloneSpec)

/-- ITS FALSE NEIGHBOUR: 'it returns false'. Refute it at one input. -/
def fnNumberCutOutAloneWrong : ChangeSpec := { name := "fnNumberCutOutAlone", fn := fun _ => fun
  | [d1, d2] => { results := [.lit (.bool false)], args := [d1, d2] }
  | _ => none }
def FnNumberCutOutAloneWrongFalsely : Prop := fnNumberCutOutAloneRow.holds Try.pinned (OpenSpec.ofChange fnNumberCutOutAloneWrong)

end Rows
end Go.Proofs.Qxb6600505a
