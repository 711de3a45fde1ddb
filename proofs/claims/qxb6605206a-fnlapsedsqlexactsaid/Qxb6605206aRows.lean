/-
  No cell of these rows narrows 'for every input' (looked for: loops, veiled, ifaces, maps, wideKeys, modest, calm, conditions, laid).
  DERIVED. THE GIVEN ROWS OF THIS SEAT. 4 by the template 'for every input the law returns true; each argument reads behind the call as it read before'; 0 by the template 'total and deterministic' (their statements: Qxb6605206aTotals.lean).
  GIVEN WITH THE SEED: the statements are not yours to turn. If you find one false, say at which input.
  Laid BY PROGRAM, IN A SANDBOX (cutbox-rows.mjs): the forced cells as the released guide's own fill.sh prints them over the translation 0cd60e323758c48e… (all of the seat's roots in one cut). By AI agents, Wed Nov 11 2026. No macro, syntax, notation, axiom, sorry.
-/
import Derived.Test.Qxb6605206aChecked
import GoSem.Claim
import GoSem.ClaimJoined
import GoSem.ClaimMapViews
import Derived.JoinedTies
import Derived.KernelRfl
namespace Go.Proofs.Qxb6605206a
/- THE CELL 'sum', in the pinned program and in every row, IS THE sha256 OF THE DUMP (.gsa) THAT Qxb6605206aProg.lean LOADS. Nothing in Lean hashes anything: it is a label: what it is worth is what the hold of that sum in a sandbox is worth. -/
noncomputable def Try.pinned : Pinned := { name := "qxb6605206a", sum := "0cd60e323758c48ef96220217b83f61ff49eef66e1600eba6cfd58b01986ab69", checked := Try.checked }
namespace Rows
def none {H : Type} : Left H := { results := [], args := [] }

/-- 'zzlaws_internal_catalog_b1.FnReleaseSQLInjective': WHATEVER THE INPUT: true; the input reads as it did. -/
def fnReleaseSQLInjectiveSpec : ChangeSpec := { name := "fnReleaseSQLInjective", fn := fun _ => fun
  | [d1, d2] => { results := [.lit (.bool true)], args := [d1, d2] }
  | _ => none }
def fnReleaseSQLInjectiveRow : OpenClaim := { program := "qxb6605206a", sum := "0cd60e323758c48ef96220217b83f61ff49eef66e1600eba6cfd58b01986ab69", func := "example.com/duckweed/duckweed/zzlaws_internal_catalog_b1.FnReleaseSQLInjective", spec := "fnReleaseSQLInjective", apart := false }
def FnReleaseSQLInjectiveSaid : Prop := fnReleaseSQLInjectiveRow.holds Try.pinned (OpenSpec.ofChange fnReleaseSQLInjectiveSpec)

/-- ITS FALSE NEIGHBOUR: 'it returns false'. Refute it at one input. -/
def fnReleaseSQLInjectiveWrong : ChangeSpec := { name := "fnReleaseSQLInjective", fn := fun _ => fun
  | [d1, d2] => { results := [.lit (.bool false)], args := [d1, d2] }
  | _ => none }
def FnReleaseSQLInjectiveWrongFalsely : Prop := fnReleaseSQLInjectiveRow.holds Try.pinned (OpenSpec.ofChange fnReleaseSQLInjectiveWrong)

/-- 'zzlaws_internal_catalog_b1.FnLapsedSQLExact': WHATEVER THE INPUT: true; the input reads as it did. -/
def fnLapsedSQLExactSpec : ChangeSpec := { name := "fnLapsedSQLExact", fn := fun _ => fun
  | [d] => { results := [.lit (.bool true)], args := [d] }
  | _ => none }
def fnLapsedSQLExactRow : OpenClaim := { program := "qxb6605206a", sum := "0cd60e323758c48ef96220217b83f61ff49eef66e1600eba6cfd58b01986ab69", func := "example.com/duckweed/duckweed/zzlaws_internal_catalog_b1.FnLapsedSQLExact", spec := "fnLapsedSQLExact", apart := false }
def FnLapsedSQLExactSaid : Prop := fnLapsedSQLExactRow.holds Try.pinned (OpenSpec.ofChange fnLapsedSQLExactSpec)

/-- ITS FALSE NEIGHBOUR: 'it returns false'. Refute it at one input. -/
def fnLapsedSQLExactWrong : ChangeSpec := { name := "fnLapsedSQLExact", fn := fun _ => fun
  | [d] => { results := [.lit (.bool false)], args := [d] }
  | _ => none }
def FnLapsedSQLExactWrongFalsely : Prop := fnLapsedSQLExactRow.holds Try.pinned (OpenSpec.ofChange fnLapsedSQLExactWrong)

/-- 'zzlaws_internal_catalog_b1.FnLapsedSQLInjective': WHATEVER THE INPUT: true; the input reads as it did. -/
def fnLapsedSQLInjectiveSpec : ChangeSpec := { name := "fnLapsedSQLInjective", fn := fun _ => fun
  | [d1, d2] => { results := [.lit (.bool true)], args := [d1, d2] }
  | _ => none }
def fnLapsedSQLInjectiveRow : OpenClaim := { program := "qxb6605206a", sum := "0cd60e323758c48ef96220217b83f61ff49eef66e1600eba6cfd58b01986ab69", func := "example.com/duckweed/duckweed/zzlaws_internal_catalog_b1.FnLapsedSQLInjective", spec := "fnLapsedSQLInjective", apart := false }
def FnLapsedSQLInjectiveSaid : Prop := fnLapsedSQLInjectiveRow.holds Try.pinned (OpenSpec.ofChange fnLapsedSQLInjectiveSpec)

/-- ITS FALSE NEIGHBOUR: 'it returns false'. Refute it at one input. -/
def fnLapsedSQLInjectiveWrong : ChangeSpec := { name := "fnLapsedSQLInjective", fn := fun _ => fun
  | [d1, d2] => { results := [.lit (.bool false)], args := [d1, d2] }
  | _ => none }
def FnLapsedSQLInjectiveWrongFalsely : Prop := fnLapsedSQLInjectiveRow.holds Try.pinned (OpenSpec.ofChange fnLapsedSQLInjectiveWrong)

/-- 'zzlaws_internal_catalog_b1.FnLeaseColumnsConcat': WHATEVER THE INPUT: true; the input reads as it did. -/
def fnLeaseColumnsConcatSpec : ChangeSpec := { name := "fnLeaseColumnsConcat", fn := fun _ => fun
  | [d1, d2] => { results := [.lit (.bool true)], args := [d1, d2] }
  | _ => none }
def fnLeaseColumnsConcatRow : OpenClaim := { program := "qxb6605206a", sum := "0cd60e323758c48ef96220217b83f61ff49eef66e1600eba6cfd58b01986ab69", func := "example.com/duckweed/duckweed/zzlaws_internal_catalog_b1.FnLeaseColumnsConcat", spec := "fnLeaseColumnsConcat", apart := false }
def FnLeaseColumnsConcatSaid : Prop := fnLeaseColumnsConcatRow.holds Try.pinned (OpenSpec.ofChange fnLeaseColumnsConcatSpec)

/-- ITS FALSE NEIGHBOUR: 'it returns false'. Refute it at one input. -/
def fnLeaseColumnsConcatWrong : ChangeSpec := { name := "fnLeaseColumnsConcat", fn := fun _ => fun
  | [d1, d2] => { results := [.lit (.bool false)], args := [d1, d2] }
  | _ => none }
def FnLeaseColumnsConcatWrongFalsely : Prop := fnLeaseColumnsConcatRow.holds Try.pinned (OpenSpec.ofChange fnLeaseColumnsConcatWrong)

end Rows
end Go.Proofs.Qxb6605206a
