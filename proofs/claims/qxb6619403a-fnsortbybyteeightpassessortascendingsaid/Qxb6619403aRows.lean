/-
  No cell of these rows narrows 'for every input' (looked for: loops, veiled, ifaces, maps, wideKeys, modest, calm, conditions, laid).
  DERIVED. THE GIVEN ROWS OF THIS SEAT. 2 by the template 'for every input the law returns true; each argument reads behind the call as it read before'; 0 by the template 'total and deterministic' (their statements: Qxb6619403aTotals.lean).
  GIVEN WITH THE SEED: the statements are not yours to turn. If you find one false, say at which input.
  Laid BY PROGRAM, IN A SANDBOX (cutbox-rows.mjs): the forced cells as the released guide's own fill.sh prints them over the translation 63237c9cc881258c… (all of the seat's roots in one cut). By AI agents, Wed Nov 11 2026. No macro, syntax, notation, axiom, sorry.
-/
import Derived.Test.Qxb6619403aChecked
import GoSem.Claim
import GoSem.ClaimJoined
import GoSem.ClaimMapViews
import Derived.JoinedTies
import Derived.KernelRfl
namespace Go.Proofs.Qxb6619403a
/- THE CELL 'sum', in the pinned program and in every row, IS THE sha256 OF THE DUMP (.gsa) THAT Qxb6619403aProg.lean LOADS. Nothing in Lean hashes anything: it is a label: what it is worth is what the hold of that sum in a sandbox is worth. -/
noncomputable def Try.pinned : Pinned := { name := "qxb6619403a", sum := "63237c9cc881258c31b96af0567c75042e8025f92eb4a6110aa68bce59a63e0d", checked := Try.checked }
namespace Rows
def none {H : Type} : Left H := { results := [], args := [] }

/-- 'zzlaws_internal_repeats_b1.FnSortByByteIsStableBucketByKey': WHATEVER THE INPUT: true; the input reads as it did. -/
def fnSortByByteIsStableBucketByKeySpec : ChangeSpec := { name := "fnSortByByteIsStableBucketByKey", fn := fun _ => fun
  | [d1, d2, d3] => { results := [.lit (.bool true)], args := [d1, d2, d3] }
  | _ => none }
def fnSortByByteIsStableBucketByKeyRow : OpenClaim := { program := "qxb6619403a", sum := "63237c9cc881258c31b96af0567c75042e8025f92eb4a6110aa68bce59a63e0d", func := "example.com/bailiff/bailiff/zzlaws_internal_repeats_b1.FnSortByByteIsStableBucketByKey", spec := "fnSortByByteIsStableBucketByKey", apart := false }
def FnSortByByteIsStableBucketByKeySaid : Prop := fnSortByByteIsStableBucketByKeyRow.holds Try.pinned (OpenSpec.ofChange fnSortByByteIsStableBucketByKeySpec)

/-- ITS FALSE NEIGHBOUR: 'it returns false'. Refute it at one input. -/
def fnSortByByteIsStableBucketByKeyWrong : ChangeSpec := { name := "fnSortByByteIsStableBucketByKey", fn := fun _ => fun
  | [d1, d2, d3] => { results := [.lit (.bool false)], args := [d1, d2, d3] }
  | _ => none }
def FnSortByByteIsStableBucketByKeyWrongFalsely : Prop := fnSortByByteIsStableBucketByKeyRow.holds Try.pinned (OpenSpec.ofChange fnSortByByteIsStableBucketByKeyWrong)

/-- 'zzlaws_internal_repeats_b1.FnSortByByteEightPassesSortAscending': WHATEVER THE INPUT: true; the input reads as it did. -/
def fnSortByByteEightPassesSortAscendingSpec : ChangeSpec := { name := "fnSortByByteEightPassesSortAscending", fn := fun _ => fun
  | [d] => { results := [.lit (.bool true)], args := [d] }
  | _ => none }
def fnSortByByteEightPassesSortAscendingRow : OpenClaim := { program := "qxb6619403a", sum := "63237c9cc881258c31b96af0567c75042e8025f92eb4a6110aa68bce59a63e0d", func := "example.com/bailiff/bailiff/zzlaws_internal_repeats_b1.FnSortByByteEightPassesSortAscending", spec := "fnSortByByteEightPassesSortAscending", apart := false }
def FnSortByByteEightPassesSortAscendingSaid : Prop := fnSortByByteEightPassesSortAscendingRow.holds Try.pinned (OpenSpec.ofChange fnSortByByteEightPassesSortAscendingSpec)

/-- ITS FALSE NEIGHBOUR: 'it returns false'. Refute it at one input. -/
def fnSortByByteEightPassesSortAscendingWrong : ChangeSpec := { name := "fnSortByByteEightPassesSortAscending", fn := fun _ => fun
  | [d] => { results := [.lit (.bool false)], args := [d] }
  | _ => none }
def FnSortByByteEightPassesSortAscendingWrongFalsely : Prop := fnSortByByteEightPassesSortAscendingRow.holds Try.pinned (OpenSpec.ofChange fnSortByByteEightPassesSortAscendingWrong)

end Rows
end Go.Proofs.Qxb6619403a
